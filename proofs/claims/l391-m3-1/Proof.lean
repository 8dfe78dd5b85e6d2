import JvmDerived
import JvmDerived.Pilot.@@N@@Statement
import JvmDerived.Pilot.@@N@@Code
set_option linter.unusedVariables false
set_option linter.unusedSimpArgs false
namespace Jvm.RoadKit
open Sem ClassFile Op Lib Jvm.Stand Jvm.Free Jvm.LawKit
section New
variable {p : Program} {l : Launch} {e : Env} {R : Room} {s : State} {m : MethodId} {args : Array Value} {below : List Frame} {meth : Method} {c : Code} {T : State} {locs : List Loc} {cells slots : Nat}
theorem retI (X : Stand p l e R s m args below meth c T locs cells slots) (hx : p.tables.exec = Jvm.exec) {pc : Nat} {Ls : Array Slot} {z : Int32} {rest : List Value} (hret : meth.sig.returnType = some .int) (hd : decode c.code pc = .ok (.ireturn, 1)) {fs : List Frame}
    (hl : ∀ (f : JFrame) (acts : List Action), f.method = m → f.locked = none → f.entered = [] → (doReturn e (T.setTop f) acts (some (.int z))).1 = T.setFrames fs) : Steps p.tables e below (T.setTop (mkF m pc Ls (.int z :: rest))) (T.setFrames fs) :=
  retOut X hx hret rfl (Or.inl ⟨rfl, Or.inl rfl, z, rfl⟩) hd hl
end New
end Jvm.RoadKit
/- laws to paste: Road.backV, Road.eqW, Road.codOf (cut by pick.py; bodies as the Statement names them) -/
namespace Jvm.Pilot.@@N@@
namespace StrChars
open Jvm Sem ClassFile Op Lib Jvm.Stand Jvm.Free.XT Jvm.Free.ALB Jvm.Free.JM Jvm.Free
open Jvm.Lib.Cold (StaticIs)
/-- a char array whose places are chars -/
def Ch (a : Addr) (A : Cell) (U : State) : Prop := Arr .char a A U ∧ Typed .char A
theorem Ch.mv {a : Addr} {A : Cell} {U U' : State} (h : Ch a A U) (hal : U.vm.Alike U'.vm) (hh : U'.heap = U.heap) : Ch a A U' := ⟨h.1.mv hal hh, h.2⟩
theorem Ch.keep {a : Addr} {A : Cell} {U U' : State} (h : Ch a A U) (hal : U.vm.Alike U'.vm) (hk : U'.heap[a]? = some A) : Ch a A U' := ⟨h.1.keep hal hk, h.2⟩
/-- what place i of a char[]'s cell holds -/
def cv (A : Cell) (i : Nat) : Int32 := match A.slots[i]? with | some (.int x) => x | _ => 0
theorem Ch.get {a : Addr} {A : Cell} {U : State} (h : Ch a A U) {i : Nat} (hi : i < A.slots.size) : A.slots[i]? = some (.int (cv A i)) := by
  have e := Array.getElem?_eq_getElem hi
  have f := h.2 i _ e
  unfold cv; rw [e]
  generalize A.slots[i] = v at f
  cases v <;> simp [fits] at f ⊢
/-- the byte that i2b leaves of a char -/
def lo8 (x : Int32) : Int32 := x.toInt8.toInt32
theorem fits_lo8 (y : Int32) : fits .byte (.int (lo8 y)) = true := by
  have h1 := y.toInt8.le_toInt
  have h2 := y.toInt8.toInt_lt
  simp only [lo8, fits, Bool.and_eq_true, decide_eq_true_eq, Int32.le_iff_toInt_le, Int8.toInt_toInt32, show (-128 : Int32).toInt = -128 from by decide, show (127 : Int32).toInt = 127 from by decide]
  omega
/-- A' is A but that each place j of lo .. hi - 1 holds f j -/
def Laid (A A' : Cell) (lo hi : Nat) (f : Nat → Value) : Prop := A'.cls = A.cls ∧ A'.vm = A.vm ∧ A'.slots.size = A.slots.size ∧ ∀ i, A'.slots[i]? = if lo ≤ i ∧ i < hi then some (f i) else A.slots[i]?
theorem Laid.zero (A : Cell) (lo : Nat) (f : Nat → Value) : Laid A A lo (lo + 0) f := ⟨rfl, rfl, rfl, fun i => by rw [if_neg (by omega)]⟩
theorem Laid.step {A Ak : Cell} {lo k : Nat} {f : Nat → Value} {v : Value} (h : Laid A Ak lo k f) (hlo : lo ≤ k) (hk : k < Ak.slots.size) (hv : v = f k) : Laid A (Ak.setSlot k v) lo (k + 1) f := by
  refine ⟨h.1, h.2.1, by simpa [Cell.setSlot] using h.2.2.1, fun i => ?_⟩
  by_cases e : k = i
  · subst e; rw [Cell.slots_setSlot_self v hk, if_pos (by omega), hv]
  · rw [Cell.slots_setSlot_ne v e, h.2.2.2 i]
    by_cases q : lo ≤ i ∧ i < k
    · rw [if_pos q, if_pos (by omega)]
    · rw [if_neg q, if_neg (by omega)]
def U16 : String := "java/lang/StringUTF16"
namespace Cmp5
def yN : MethodName := ⟨"java/lang/StringUTF16", "compress", "([CI[BII)I"⟩
abbrev yB : ByteArray := jdk_52_method_21_code
theorem d0 : decode yB 0 = .ok (.iconst 0, 1) := by decide +kernel
theorem d1 : decode yB 1 = .ok (.istore 5, 2) := by decide +kernel
theorem d3 : decode yB 3 = .ok (.iload 5, 2) := by decide +kernel
theorem d5 : decode yB 5 = .ok (.iload 4, 2) := by decide +kernel
theorem d7 : decode yB 7 = .ok (.if_icmp (.ge) 37, 3) := by decide +kernel
theorem d10 : decode yB 10 = .ok (.aload_n 0, 1) := by decide +kernel
theorem d11 : decode yB 11 = .ok (.iload_n 1, 1) := by decide +kernel
theorem d12 : decode yB 12 = .ok (.caload, 1) := by decide +kernel
theorem d13 : decode yB 13 = .ok (.istore 6, 2) := by decide +kernel
theorem d15 : decode yB 15 = .ok (.iload 6, 2) := by decide +kernel
theorem d17 : decode yB 17 = .ok (.sipush 255, 3) := by decide +kernel
theorem d20 : decode yB 20 = .ok (.if_icmp (.le) 6, 3) := by decide +kernel
theorem d26 : decode yB 26 = .ok (.aload_n 2, 1) := by decide +kernel
theorem d27 : decode yB 27 = .ok (.iload_n 3, 1) := by decide +kernel
theorem d28 : decode yB 28 = .ok (.iload 6, 2) := by decide +kernel
theorem d30 : decode yB 30 = .ok (.i2b, 1) := by decide +kernel
theorem d31 : decode yB 31 = .ok (.bastore, 1) := by decide +kernel
theorem d32 : decode yB 32 = .ok (.iinc 1 1, 3) := by decide +kernel
theorem d35 : decode yB 35 = .ok (.iinc 3 1, 3) := by decide +kernel
theorem d38 : decode yB 38 = .ok (.iinc 5 1, 3) := by decide +kernel
theorem d41 : decode yB 41 = .ok (.goto (-38), 3) := by decide +kernel
theorem d44 : decode yB 44 = .ok (.iload 4, 2) := by decide +kernel
theorem d46 : decode yB 46 = .ok (.ireturn, 1) := by decide +kernel
def site : List Cond := []
def tab : Cond := tabOf yN yB 7 (some .int) site
def P (b : Addr) (A : Cell) (d : Addr) (B : Cell) (o q len : Nat) (args : Array Value) (s : State) : Prop := args = #[.ref b, .int (Int32.ofNat o), .ref d, .int (Int32.ofNat q), .int (Int32.ofNat len)] ∧ Ch b A s ∧ Arr .byte d B s ∧ b ≠ d ∧ o + len ≤ A.slots.size ∧ q + len ≤ B.slots.size ∧ ∀ i, i < len → ¬ 255 < cv A (o + i)
def E (b : Addr) (A : Cell) (d : Addr) (B : Cell) (o q len : Nat) (r : Option Value) (s u : State) : Prop := r = some (.int (Int32.ofNat len)) ∧ ∃ B', Put d B' s u ∧ Laid B B' q (q + len) (fun j => Value.int (lo8 (cv A (o + (j - q)))))
/-- no char of the range above 255: len; the places written hold each char's low byte -/
theorem law (l : Launch) (b : Addr) (A : Cell) (d : Addr) (B : Cell) (o q len : Nat) : Law l yN 5 5 0 0 yB 7 (some .int) site (P b A d B o q len) (E b A d B o q len) (copyLocs d q len) 0 0 := by
  refine Law.of_walk (plainFor_of_name (by decide +kernel)) (by decide +kernel) (by decide +kernel) (by decide) (fun _ _ h => by rw [h.1]; rfl) (fun _ U U' hal hh h => ⟨h.1, h.2.1.mv hal hh, h.2.2.1.mv hal hh, h.2.2.2⟩) (fun r U U' V V' h1 hal h2 h => ⟨h.1, h.2.elim fun B' q => ⟨B', q.1.mv h1 h2, q.2⟩⟩) ?_
  intro p e s m args below meth c s₁ X0 hexec hbytes hml hret hlk hnm hown hh0 W hP
  obtain ⟨rfl, hA, hB, hne, l1, l2, hp⟩ := hP
  have c1 : Steps p.tables e below (s₁.setTop (entryFrame m #[.ref b, .int (Int32.ofNat o), .ref d, .int (Int32.ofNat q), .int (Int32.ofNat len)] 7)) (s₁.setTop (mkF m 0 #[.val (.ref b), .val (.int (Int32.ofNat o)), .val (.ref d), .val (.int (Int32.ofNat q)), .val (.int (Int32.ofNat len)), .unset, .unset] [])) := entry rfl
  have hA0 := hA.1.mv X0.warmed.alike hh0
  have hB0 := hB.mv X0.warmed.alike hh0
  have a31 := hA.1.2.2.2
  have c2 : Steps p.tables e below (s₁.setTop (entryFrame m #[.ref b, .int (Int32.ofNat o), .ref d, .int (Int32.ofNat q), .int (Int32.ofNat len)] 7)) (s₁.setTop (mkF m 3 #[.val (.ref b), .val (.int (Int32.ofNat o)), .val (.ref d), .val (.int (Int32.ofNat q)), .val (.int (Int32.ofNat len)), .val (.int 0), .unset] [])) := c1.trans (by
    refine iconstV X0.here hexec rfl 0 (hb hbytes d0) (by decide) ?_
    refine XS.istore X0.here hexec rfl (hb hbytes d1) rfl rfl ?_
    exact Steps.refl _)
  have loop : ∀ (r i : Nat), i + r = len → ∀ (z : Slot), (z = .unset ∨ ∃ w, z = .val w ∧ w.category = 1) → ∀ (Tl : State) (Bk : Cell), Stand p l e { frames := 0, locals := 0, cells := 0, slots := 0 } s m #[.ref b, .int (Int32.ofNat o), .ref d, .int (Int32.ofNat q), .int (Int32.ofNat len)] below meth c Tl ([] ++ copyLocs d q i) 0 0 → Put d Bk s₁ Tl → Laid B Bk q (q + i) (fun j => Value.int (lo8 (cv A (o + (j - q))))) →
      Steps p.tables e below (s₁.setTop (entryFrame m #[.ref b, .int (Int32.ofNat o), .ref d, .int (Int32.ofNat q), .int (Int32.ofNat len)] 7)) (Tl.setTop (mkF m 3 #[.val (.ref b), .val (.int (Int32.ofNat (o + i))), .val (.ref d), .val (.int (Int32.ofNat (q + i))), .val (.int (Int32.ofNat len)), .val (.int (Int32.ofNat i)), z] [])) → ∃ (T' : State) (B' : Cell) (z' : Slot), Stand p l e { frames := 0, locals := 0, cells := 0, slots := 0 } s m #[.ref b, .int (Int32.ofNat o), .ref d, .int (Int32.ofNat q), .int (Int32.ofNat len)] below meth c T' ([] ++ copyLocs d q len) 0 0 ∧ Put d B' s₁ T' ∧ Laid B B' q (q + len) (fun j => Value.int (lo8 (cv A (o + (j - q))))) ∧
      Steps p.tables e below (s₁.setTop (entryFrame m #[.ref b, .int (Int32.ofNat o), .ref d, .int (Int32.ofNat q), .int (Int32.ofNat len)] 7)) (T'.setTop (mkF m 3 #[.val (.ref b), .val (.int (Int32.ofNat (o + len))), .val (.ref d), .val (.int (Int32.ofNat (q + len))), .val (.int (Int32.ofNat len)), .val (.int (Int32.ofNat len)), z'] [])) := by
    intro r
    induction r with
    | zero =>
      intro i hi z hz Tl Bk Xl pl fl cl
      have hil : i = len := by omega
      rw [hil] at Xl fl cl
      exact ⟨Tl, Bk, z, Xl, pl, fl, cl⟩
    | succ r ih =>
      intro i hi z hz Tl Bk Xl pl fl cl
      have all := X0.warmed.alike.symm.trans Xl.warmed.alike
      have hAl := hA0.keep all (pl.other hne hA0.1)
      have hBk := hB0.like all pl.1 fl.1 fl.2.1 fl.2.2.1
      have hlt : q + i < Bk.slots.size := by rw [fl.2.2.1]; omega
      have c3 : Steps p.tables e below (s₁.setTop (entryFrame m #[.ref b, .int (Int32.ofNat o), .ref d, .int (Int32.ofNat q), .int (Int32.ofNat len)] 7)) (Tl.setTop (mkF m 12 #[.val (.ref b), .val (.int (Int32.ofNat (o + i))), .val (.ref d), .val (.int (Int32.ofNat (q + i))), .val (.int (Int32.ofNat len)), .val (.int (Int32.ofNat i)), z] [.int (Int32.ofNat (o + i)), .ref b])) := cl.trans (by
        refine XS.iload Xl.here hexec rfl (hb hbytes d3) rfl ?_
        refine XS.iload Xl.here hexec rfl (hb hbytes d5) rfl ?_
        refine XS.icmpNo Xl.here hexec rfl (hb hbytes d7) rfl (ii_ge_f (lt32 (by omega) (by omega))) ?_
        refine XS.aloadN Xl.here hexec rfl (hb hbytes d10) rfl rfl ?_
        refine XS.iloadN Xl.here hexec rfl (hb hbytes d11) rfl ?_
        exact Steps.refl _)
      have c4 : Steps p.tables e below (s₁.setTop (entryFrame m #[.ref b, .int (Int32.ofNat o), .ref d, .int (Int32.ofNat q), .int (Int32.ofNat len)] 7)) (Tl.setTop (mkF m 13 #[.val (.ref b), .val (.int (Int32.ofNat (o + i))), .val (.ref d), .val (.int (Int32.ofNat (q + i))), .val (.int (Int32.ofNat len)), .val (.int (Int32.ofNat i)), z] [.int (cv A (o + i))])) := c3.trans (by
        refine Xl.aget hexec hAl rfl (hA.get (i := o + i) (by omega)) rfl rfl (hb hbytes d12) ?_
        exact Steps.refl _)
      have c5 : Steps p.tables e below (s₁.setTop (entryFrame m #[.ref b, .int (Int32.ofNat o), .ref d, .int (Int32.ofNat q), .int (Int32.ofNat len)] 7)) (Tl.setTop (mkF m 15 #[.val (.ref b), .val (.int (Int32.ofNat (o + i))), .val (.ref d), .val (.int (Int32.ofNat (q + i))), .val (.int (Int32.ofNat len)), .val (.int (Int32.ofNat i)), .val (.int (cv A (o + i)))] [])) := c4.trans (by
        refine XS.istoreS Xl.here hexec rfl (hb hbytes d13) rfl rfl hz ?_
        exact Steps.refl _)
      have c6 : Steps p.tables e below (s₁.setTop (entryFrame m #[.ref b, .int (Int32.ofNat o), .ref d, .int (Int32.ofNat q), .int (Int32.ofNat len)] 7)) (Tl.setTop (mkF m 31 #[.val (.ref b), .val (.int (Int32.ofNat (o + i))), .val (.ref d), .val (.int (Int32.ofNat (q + i))), .val (.int (Int32.ofNat len)), .val (.int (Int32.ofNat i)), .val (.int (cv A (o + i)))] [.int (lo8 (cv A (o + i))), .int (Int32.ofNat (q + i)), .ref d])) := c5.trans (by
        refine XS.iload Xl.here hexec rfl (hb hbytes d15) rfl ?_
        refine sipushV Xl.here hexec rfl 255 (hb hbytes d17) (by decide) ?_
        refine XS.icmpYes Xl.here hexec rfl (pc0 := 20) rfl (hb hbytes d20) rfl (ii_le_t (hp i (by omega))) (by decide) rfl ?_
        refine XS.aloadN Xl.here hexec rfl (hb hbytes d26) rfl rfl ?_
        refine XS.iloadN Xl.here hexec rfl (hb hbytes d27) rfl ?_
        refine XS.iload Xl.here hexec rfl (hb hbytes d28) rfl ?_
        refine i2b Xl.here hexec rfl (hb hbytes d30) rfl ?_
        exact Steps.refl _)
      obtain ⟨T7, X7, p7, st7⟩ := Xl.aput hexec hBk rfl hlt rfl (fits_lo8 (cv A (o + i))) (g := (mkF m 31 #[.val (.ref b), .val (.int (Int32.ofNat (o + i))), .val (.ref d), .val (.int (Int32.ofNat (q + i))), .val (.int (Int32.ofNat len)), .val (.int (Int32.ofNat i)), .val (.int (cv A (o + i)))] [.int (lo8 (cv A (o + i))), .int (Int32.ofNat (q + i)), .ref d])) rfl (rest := []) rfl (hb hbytes d31)
      have c8 : Steps p.tables e below (s₁.setTop (entryFrame m #[.ref b, .int (Int32.ofNat o), .ref d, .int (Int32.ofNat q), .int (Int32.ofNat len)] 7)) (T7.setTop (mkF m 32 #[.val (.ref b), .val (.int (Int32.ofNat (o + i))), .val (.ref d), .val (.int (Int32.ofNat (q + i))), .val (.int (Int32.ofNat len)), .val (.int (Int32.ofNat i)), .val (.int (cv A (o + i)))] [])) := c6.trans (st7 _ (Steps.refl _))
      have c9 : Steps p.tables e below (s₁.setTop (entryFrame m #[.ref b, .int (Int32.ofNat o), .ref d, .int (Int32.ofNat q), .int (Int32.ofNat len)] 7)) (T7.setTop (mkF m 3 #[.val (.ref b), .val (.int (Int32.ofNat (o + i) + 1)), .val (.ref d), .val (.int (Int32.ofNat (q + i) + 1)), .val (.int (Int32.ofNat len)), .val (.int (Int32.ofNat i + 1)), .val (.int (cv A (o + i)))] [])) := c8.trans (by
        refine iincV X7.here hexec rfl 1 (hb hbytes d32) (by decide) rfl rfl ?_
        refine iincV X7.here hexec rfl 1 (hb hbytes d35) (by decide) rfl rfl ?_
        refine iincV X7.here hexec rfl 1 (hb hbytes d38) (by decide) rfl rfl ?_
        refine XS.goto X7.here hexec rfl (pc0 := 41) rfl (hb hbytes d41) (by decide) rfl ?_
        exact Steps.refl _)
      have c10 : Steps p.tables e below (s₁.setTop (entryFrame m #[.ref b, .int (Int32.ofNat o), .ref d, .int (Int32.ofNat q), .int (Int32.ofNat len)] 7)) (T7.setTop (mkF m 3 #[.val (.ref b), .val (.int (Int32.ofNat (o + (i + 1)))), .val (.ref d), .val (.int (Int32.ofNat (q + (i + 1)))), .val (.int (Int32.ofNat len)), .val (.int (Int32.ofNat (i + 1))), .val (.int (cv A (o + i)))] [])) := by
        have := c9
        rw [succ32, succ32, succ32] at this
        exact this
      exact ih (i + 1) (by omega) _ (Or.inr ⟨_, rfl, rfl⟩) T7 _ (by rw [copyLocs_step, ← List.append_assoc]; exact X7) (pl.trans p7) (fl.step (by omega) hlt (by simp)) c10
  obtain ⟨T9, B9, z9, X9, p9, f9, g9⟩ := loop len 0 (by omega) .unset (Or.inl rfl) s₁ B (by simpa [copyLocs] using X0) ⟨hB0.1, fun _ _ => rfl, rfl⟩ (Laid.zero _ _ _) c2
  have c11 : Steps p.tables e below (s₁.setTop (entryFrame m #[.ref b, .int (Int32.ofNat o), .ref d, .int (Int32.ofNat q), .int (Int32.ofNat len)] 7)) (T9.setTop (mkF m 46 #[.val (.ref b), .val (.int (Int32.ofNat (o + len))), .val (.ref d), .val (.int (Int32.ofNat (q + len))), .val (.int (Int32.ofNat len)), .val (.int (Int32.ofNat len)), z9] [.int (Int32.ofNat len)])) := g9.trans (by
    refine XS.iload X9.here hexec rfl (hb hbytes d3) rfl ?_
    refine XS.iload X9.here hexec rfl (hb hbytes d5) rfl ?_
    refine XS.icmpYes X9.here hexec rfl (pc0 := 7) rfl (hb hbytes d7) rfl (ii_ge_t (nlt32 (by omega) (Nat.le_refl _))) (by decide) rfl ?_
    refine XS.iload X9.here hexec rfl (hb hbytes d44) rfl ?_
    exact Steps.refl _)
  exact ⟨T9, some (.int (Int32.ofNat len)), _, _, _, X9, by simp, rfl, rfl, (fun h => by cases h), ⟨rfl, B9, p9.from hh0, f9⟩, fun fs hl => c11.trans (X9.ireturnOut hexec hret rfl (Or.inl rfl) (hb hbytes d46) hl)⟩
end Cmp5
namespace Cmp3
def yN : MethodName := ⟨"java/lang/StringUTF16", "compress", "([CII)[B"⟩
abbrev yB : ByteArray := jdk_52_method_16_code
theorem d0 : decode yB 0 = .ok (.iload_n 2, 1) := by decide +kernel
theorem d1 : decode yB 1 = .ok (.newarray .byte, 2) := by decide +kernel
theorem d3 : decode yB 3 = .ok (.astore_n 3, 1) := by decide +kernel
theorem d4 : decode yB 4 = .ok (.aload_n 0, 1) := by decide +kernel
theorem d5 : decode yB 5 = .ok (.iload_n 1, 1) := by decide +kernel
theorem d6 : decode yB 6 = .ok (.aload_n 3, 1) := by decide +kernel
theorem d7 : decode yB 7 = .ok (.iconst 0, 1) := by decide +kernel
theorem d8 : decode yB 8 = .ok (.iload_n 2, 1) := by decide +kernel
theorem d9 : decode yB 9 = .ok (.invokestatic 115, 3) := by decide +kernel
theorem d12 : decode yB 12 = .ok (.istore 4, 2) := by decide +kernel
theorem d14 : decode yB 14 = .ok (.iload 4, 2) := by decide +kernel
theorem d16 : decode yB 16 = .ok (.iload_n 2, 1) := by decide +kernel
theorem d17 : decode yB 17 = .ok (.if_icmp (.eq) 40, 3) := by decide +kernel
theorem d57 : decode yB 57 = .ok (.aload_n 3, 1) := by decide +kernel
theorem d58 : decode yB 58 = .ok (.areturn, 1) := by decide +kernel
def site : List Cond := [.arrayClass .byte, Cmp5.tab] ++ staticW U16 115 Cmp5.yN
def tab : Cond := tabOf yN yB 6 (some (.array .byte)) site
def P (b : Addr) (A : Cell) (o len : Nat) (args : Array Value) (s : State) : Prop := args = #[.ref b, .int (Int32.ofNat o), .int (Int32.ofNat len)] ∧ Ch b A s ∧ o + len ≤ A.slots.size ∧ len ≤ 536870912 ∧ ∀ i, i < len → ¬ 255 < cv A (o + i)
def E (b : Addr) (A : Cell) (o len : Nat) (r : Option Value) (s u : State) : Prop := NewArr .byte "[B" len (fun j => .int (lo8 (cv A (o + j)))) r s u ∧ u.heap.size = s.heap.size + 1
/-- no char of the range above 255: a new byte[] of their low bytes -/
theorem law (l : Launch) (b : Addr) (A : Cell) (o len : Nat) : Law l yN 3 3 1 18 yB 6 (some (.array .byte)) site (P b A o len) (E b A o len) [] 1 len := by
  refine Law.of_walk (plainFor_of_name (by decide +kernel)) (by decide +kernel) (by decide +kernel) (by decide) (fun _ _ h => by rw [h.1]; rfl) (fun _ U U' hal hh h => ⟨h.1, h.2.1.mv hal hh, h.2.2⟩) (fun r U U' V V' h1 hal h2 h => ⟨NewArr.mv r U U' V V' h1 hal h2 h.1, by rw [h1, h2]; exact h.2⟩) ?_
  intro p e s m args below meth c s₁ X0 hexec hbytes hml hret hlk hnm hown hh0 W hP
  obtain ⟨rfl, hA, l1, l2, hp⟩ := hP
  have a31 := hA.1.2.2.2
  have c1 : Steps p.tables e below (s₁.setTop (entryFrame m #[.ref b, .int (Int32.ofNat o), .int (Int32.ofNat len)] 6)) (s₁.setTop (mkF m 0 #[.val (.ref b), .val (.int (Int32.ofNat o)), .val (.int (Int32.ofNat len)), .unset, .unset, .unset] [])) := entry rfl
  have c2 : Steps p.tables e below (s₁.setTop (entryFrame m #[.ref b, .int (Int32.ofNat o), .int (Int32.ofNat len)] 6)) (s₁.setTop (mkF m 1 #[.val (.ref b), .val (.int (Int32.ofNat o)), .val (.int (Int32.ofNat len)), .unset, .unset, .unset] [.int (Int32.ofNat len)])) := c1.trans (by
    refine XS.iloadN X0.here hexec rfl (hb hbytes d0) rfl ?_
    exact Steps.refl _)
  obtain ⟨T3, B3, X3, ba3, bs3, bv3, bh3, bf3, st3⟩ := X0.anew hexec (atype := .byte) (wk W (.arrayClass .byte)) rfl (by show len * 1 ≤ _; omega) (by omega) (g := (mkF m 1 #[.val (.ref b), .val (.int (Int32.ofNat o)), .val (.int (Int32.ofNat len)), .unset, .unset, .unset] [.int (Int32.ofNat len)])) rfl (hb hbytes d1) (rest := []) rfl (Nat.le_refl _) (by show 0 + len ≤ len; omega)
  rw [hh0] at ba3 st3
  have kp3 : XT.Kept s T3 := (XT.Kept.of_eq hh0).push bh3
  have hA3 := hA.keep X3.warmed.alike (kp3 _ _ hA.1.1)
  have hne : b ≠ s.heap.size := hA.1.ne
  have c4 : Steps p.tables e below (s₁.setTop (entryFrame m #[.ref b, .int (Int32.ofNat o), .int (Int32.ofNat len)] 6)) (T3.setTop (mkF m 3 #[.val (.ref b), .val (.int (Int32.ofNat o)), .val (.int (Int32.ofNat len)), .unset, .unset, .unset] [.ref s.heap.size])) := c2.trans (st3 _ (Steps.refl _))
  have c5 : Steps p.tables e below (s₁.setTop (entryFrame m #[.ref b, .int (Int32.ofNat o), .int (Int32.ofNat len)] 6)) (T3.setTop (mkF m 9 #[.val (.ref b), .val (.int (Int32.ofNat o)), .val (.int (Int32.ofNat len)), .val (.ref s.heap.size), .unset, .unset] [.int (Int32.ofNat len), .int 0, .ref s.heap.size, .int (Int32.ofNat o), .ref b])) := c4.trans (by
    refine XS.astoreN X3.here hexec rfl (hb hbytes d3) rfl rfl rfl ?_
    refine XS.aloadN X3.here hexec rfl (hb hbytes d4) rfl rfl ?_
    refine XS.iloadN X3.here hexec rfl (hb hbytes d5) rfl ?_
    refine XS.aloadN X3.here hexec rfl (hb hbytes d6) rfl rfl ?_
    refine iconstV X3.here hexec rfl 0 (hb hbytes d7) (by decide) ?_
    refine XS.iloadN X3.here hexec rfl (hb hbytes d8) rfl ?_
    exact Steps.refl _)
  obtain ⟨v6, T6, X6, E6, g6⟩ := X3.callS hexec (Cmp5.law l b A s.heap.size B3 o 0 len) hown (wks W (staticW U16 115 Cmp5.yN)) (wk W Cmp5.tab) (W := 0) (Nat.le_of_ble_eq_true rfl) (Nat.le_of_ble_eq_true rfl) (Nat.le_refl _) (by show 0 + len + 0 ≤ len; omega) (g := (mkF m 9 #[.val (.ref b), .val (.int (Int32.ofNat o)), .val (.int (Int32.ofNat len)), .val (.ref s.heap.size), .unset, .unset] [.int (Int32.ofNat len), .int (Int32.ofNat 0), .ref s.heap.size, .int (Int32.ofNat o), .ref b])) rfl (by rw [hml]; rfl) c5 (argsL := [.ref b, .int (Int32.ofNat o), .ref s.heap.size, .int (Int32.ofNat 0), .int (Int32.ofNat len)]) (rest := []) rfl rfl (by show 2 * 0 + 0 ≤ _; decide) (hb hbytes d9) (⟨rfl, hA3, ba3, hne, l1, by rw [bs3]; simp, hp⟩)
  obtain ⟨rfl, B6, p6, f6⟩ := E6
  have c7 : Steps p.tables e below (s₁.setTop (entryFrame m #[.ref b, .int (Int32.ofNat o), .int (Int32.ofNat len)] 6)) (T6.setTop (mkF m 12 #[.val (.ref b), .val (.int (Int32.ofNat o)), .val (.int (Int32.ofNat len)), .val (.ref s.heap.size), .unset, .unset] [.int (Int32.ofNat len)])) := g6
  have c8 : Steps p.tables e below (s₁.setTop (entryFrame m #[.ref b, .int (Int32.ofNat o), .int (Int32.ofNat len)] 6)) (T6.setTop (mkF m 58 #[.val (.ref b), .val (.int (Int32.ofNat o)), .val (.int (Int32.ofNat len)), .val (.ref s.heap.size), .val (.int (Int32.ofNat len)), .unset] [.ref s.heap.size])) := c7.trans (by
    refine XS.istore X6.here hexec rfl (hb hbytes d12) rfl rfl ?_
    refine XS.iload X6.here hexec rfl (hb hbytes d14) rfl ?_
    refine XS.iloadN X6.here hexec rfl (hb hbytes d16) rfl ?_
    refine XS.icmpYes X6.here hexec rfl (pc0 := 17) rfl (hb hbytes d17) rfl (ii_eq_t rfl) (by decide) rfl ?_
    refine XS.aloadN X6.here hexec rfl (hb hbytes d57) rfl rfl ?_
    exact Steps.refl _)
  have X8 := X6.wide (L' := []) (cells' := 1) (slots' := len) (fun x hx hlt => by
    simp only [List.nil_append, copyLocs, List.mem_map, List.mem_range] at hx
    obtain ⟨i, -, rfl⟩ := hx
    exact absurd hlt (Nat.lt_irrefl _)) (Nat.le_refl _) (by omega)
  exact ⟨T6, some (.ref s.heap.size), _, _, _, X8, rfl, rfl, rfl, (fun h => by cases h), ⟨⟨rfl, B6, ba3.like (X3.warmed.alike.symm.trans X6.warmed.alike) p6.1 f6.1 f6.2.1 f6.2.2.1, f6.2.1.trans bv3, by rw [X6.warmed.alike.findClass, f6.1]; exact bf3, by rw [f6.2.2.1, bs3]; simp, fun j hj => by rw [f6.2.2.2 j, if_pos (by omega)]; rfl, kp3.put p6 (Nat.le_refl _)⟩, by rw [p6.2.2, bh3, hh0]; simp⟩, fun fs hl => c8.trans (X8.areturnOut hexec rfl hret rfl (hb hbytes d58) hl)⟩
end Cmp3
namespace CodL
def yN : MethodName := ⟨"java/lang/StringUTF16", "coderFromArrayLen", "([BI)B"⟩
abbrev yB : ByteArray := jdk_52_method_15_code
theorem d0 : decode yB 0 = .ok (.iload_n 1, 1) := by decide +kernel
theorem d1 : decode yB 1 = .ok (.aload_n 0, 1) := by decide +kernel
theorem d2 : decode yB 2 = .ok (.arraylength, 1) := by decide +kernel
theorem d3 : decode yB 3 = .ok (.isub, 1) := by decide +kernel
theorem d4 : decode yB 4 = .ok (.bipush 31, 2) := by decide +kernel
theorem d6 : decode yB 6 = .ok (.iushr, 1) := by decide +kernel
theorem d7 : decode yB 7 = .ok (.i2b, 1) := by decide +kernel
theorem d8 : decode yB 8 = .ok (.ireturn, 1) := by decide +kernel
def site : List Cond := []
def tab : Cond := tabOf yN yB 2 (some .byte) site
def P (d : Addr) (B : Cell) (args : Array Value) (s : State) : Prop := args = #[.ref d, .int (Int32.ofNat B.slots.size)] ∧ Arr .byte d B s
def E (r : Option Value) (s u : State) : Prop := XT.PureE (some (.int 0)) r s u
/-- an array as long as the number of chars: LATIN1 -/
theorem law (l : Launch) (d : Addr) (B : Cell) : Law l yN 2 2 0 0 yB 2 (some .byte) site (P d B) E [] 0 0 := by
  refine Law.of_walk (plainFor_of_name (by decide +kernel)) (by decide +kernel) (by decide +kernel) (by decide) (fun _ _ h => by rw [h.1]; rfl) (fun _ U U' hal hh h => ⟨h.1, h.2.mv hal hh⟩) (fun r U U' V V' h1 hal h2 h => XT.PureE.mv r U U' V V' h1 hal h2 h) ?_
  intro p e s m args below meth c s₁ X0 hexec hbytes hml hret hlk hnm hown hh0 W hP
  obtain ⟨rfl, hB⟩ := hP
  have hB0 := hB.mv X0.warmed.alike hh0
  have c1 : Steps p.tables e below (s₁.setTop (entryFrame m #[.ref d, .int (Int32.ofNat B.slots.size)] 2)) (s₁.setTop (mkF m 0 #[.val (.ref d), .val (.int (Int32.ofNat B.slots.size))] [])) := entry rfl
  have c2 : Steps p.tables e below (s₁.setTop (entryFrame m #[.ref d, .int (Int32.ofNat B.slots.size)] 2)) (s₁.setTop (mkF m 2 #[.val (.ref d), .val (.int (Int32.ofNat B.slots.size))] [.ref d, .int (Int32.ofNat B.slots.size)])) := c1.trans (by
    refine XS.iloadN X0.here hexec rfl (hb hbytes d0) rfl ?_
    refine XS.aloadN X0.here hexec rfl (hb hbytes d1) rfl rfl ?_
    exact Steps.refl _)
  have c3 : Steps p.tables e below (s₁.setTop (entryFrame m #[.ref d, .int (Int32.ofNat B.slots.size)] 2)) (s₁.setTop (mkF m 8 #[.val (.ref d), .val (.int (Int32.ofNat B.slots.size))] [.int (lo8 (ushr (Int32.ofNat B.slots.size - Int32.ofNat B.slots.size) 31))])) := c2.trans (by
    refine X0.alen hexec hB0 rfl rfl (hb hbytes d2) ?_
    refine XS.isub X0.here hexec rfl (hb hbytes d3) rfl ?_
    refine bipushV X0.here hexec rfl 31 (hb hbytes d4) (by decide) ?_
    refine iushr X0.here hexec rfl (hb hbytes d6) rfl ?_
    refine i2b X0.here hexec rfl (hb hbytes d7) rfl ?_
    exact Steps.refl _)
  have e0 : lo8 (ushr (Int32.ofNat B.slots.size - Int32.ofNat B.slots.size) 31) = 0 := by rw [Int32.sub_self]; decide
  rw [e0] at c3
  exact ⟨s₁, some (.int 0), _, _, _, X0, rfl, rfl, rfl, (fun h => by cases h), ⟨rfl, hh0⟩, fun fs hl => c3.trans (X0.ireturnOut hexec hret rfl (Or.inr (Or.inr (Or.inl rfl))) (hb hbytes d8) hl)⟩
end CodL
/-- the String at a is Latin-1 over a new byte[] (the heap's one new cell): the low bytes of the len chars of A from o on; every cell but a is kept -/
def Got (a : Addr) (D : Cell) (fV fC : Field) (A : Cell) (o len : Nat) (r : Option Value) (s u : State) : Prop := r = none ∧ ∃ D' V : Cell, Blank "java/lang/String" a D' u ∧ Same D D' [fV.slot, fC.slot] ∧ D'.slots[fV.slot]? = some (.ref s.heap.size) ∧ D'.slots[fC.slot]? = some (.int 0) ∧ Arr .byte s.heap.size V u ∧ V.vm = .none ∧ u.vm.findClass "[B" = some V.cls ∧ V.slots.size = len ∧ (∀ j, j < len → V.slots[j]? = some (.int (lo8 (cv A (o + j))))) ∧ (∀ (y : Addr) (c : Cell), y ≠ a → s.heap[y]? = some c → u.heap[y]? = some c) ∧ u.heap.size = s.heap.size + 1
theorem Got.mv {a : Addr} {D A : Cell} {fV fC : Field} {o len : Nat} : ∀ r (U U' V V' : State), U'.heap = U.heap → V.vm.Alike V'.vm → V'.heap = V.heap → Got a D fV fC A o len r U V → Got a D fV fC A o len r U' V' :=
  fun r U U' V V' h1 hal h2 ⟨e0, D', X, a1, a2, a3, a4, a5, a6, a7, a8, a9, a10, a11⟩ => ⟨e0, D', X, a1.mv hal h2, a2, by rw [h1]; exact a3, a4, by rw [h1]; exact a5.mv hal h2, a6, by rw [hal.findClass]; exact a7, a8, a9, by rw [h1, h2]; exact a10, by rw [h1, h2]; exact a11⟩
namespace New4
def yN : MethodName := ⟨"java/lang/String", "<init>", "([CIILjava/lang/Void;)V"⟩
abbrev yB : ByteArray := jdk_42_method_149_code
theorem d0 : decode yB 0 = .ok (.aload_n 0, 1) := by decide +kernel
theorem d1 : decode yB 1 = .ok (.invokespecial 1, 3) := by decide +kernel
theorem d4 : decode yB 4 = .ok (.iload_n 3, 1) := by decide +kernel
theorem d5 : decode yB 5 = .ok (.ifCond (.ne) 22, 3) := by decide +kernel
theorem d27 : decode yB 27 = .ok (.getstatic 38, 3) := by decide +kernel
theorem d30 : decode yB 30 = .ok (.ifCond (.eq) 28, 3) := by decide +kernel
theorem d33 : decode yB 33 = .ok (.aload_n 1, 1) := by decide +kernel
theorem d34 : decode yB 34 = .ok (.iload_n 2, 1) := by decide +kernel
theorem d35 : decode yB 35 = .ok (.iload_n 3, 1) := by decide +kernel
theorem d36 : decode yB 36 = .ok (.invokestatic 177, 3) := by decide +kernel
theorem d39 : decode yB 39 = .ok (.astore 5, 2) := by decide +kernel
theorem d41 : decode yB 41 = .ok (.aload_n 0, 1) := by decide +kernel
theorem d42 : decode yB 42 = .ok (.aload 5, 2) := by decide +kernel
theorem d44 : decode yB 44 = .ok (.iload_n 3, 1) := by decide +kernel
theorem d45 : decode yB 45 = .ok (.invokestatic 47, 3) := by decide +kernel
theorem d48 : decode yB 48 = .ok (.putfield 15, 3) := by decide +kernel
theorem d51 : decode yB 51 = .ok (.aload_n 0, 1) := by decide +kernel
theorem d52 : decode yB 52 = .ok (.aload 5, 2) := by decide +kernel
theorem d54 : decode yB 54 = .ok (.putfield 9, 3) := by decide +kernel
theorem d57 : decode yB 57 = .ok (.return_, 1) := by decide +kernel
def site : List Cond := [.fieldLink "java/lang/String" 38 "java/lang/String" "COMPACT_STRINGS" "Z", Cmp3.tab, CodL.tab, .laysFinal "java/lang/String" "java/lang/String" "value" "[B", .fieldLink "java/lang/String" 9 "java/lang/String" "value" "[B", .laysFinal "java/lang/String" "java/lang/String" "coder" "B", .fieldLink "java/lang/String" 15 "java/lang/String" "coder" "B"] ++ objW "java/lang/String" 1 ++ staticW "java/lang/String" 177 Cmp3.yN ++ staticW "java/lang/String" 47 CodL.yN
def tab : Cond := tabOf yN yB 6 none site
def P (a : Addr) (D : Cell) (fV fC : Field) (b : Addr) (A : Cell) (z : Int32) (o len : Nat) (args : Array Value) (s : State) : Prop := args = #[.ref a, .ref b, .int (Int32.ofNat o), .int (Int32.ofNat len), .null] ∧ Blank "java/lang/String" a D s ∧ Found "java/lang/String" "value" "[B" fV s ∧ Found "java/lang/String" "coder" "B" fC s ∧ Ch b A s ∧ StaticIs s "java/lang/String" "COMPACT_STRINGS" "Z" (.int z) ∧ ¬ z = 0 ∧ 0 < len ∧ o + len ≤ A.slots.size ∧ len ≤ 536870912 ∧ ∀ i, i < len → ¬ 255 < cv A (o + i)
def E (a : Addr) (D : Cell) (fV fC : Field) (A : Cell) (o len : Nat) (r : Option Value) (s u : State) : Prop := Got a D fV fC A o len r s u
/-- len > 0, no char of the range above 255: a Latin-1 String of their low bytes -/
theorem law (l : Launch) (a : Addr) (D : Cell) (fV fC : Field) (b : Addr) (A : Cell) (z : Int32) (o len : Nat) : Law l yN 5 4 2 35 yB 6 none site (P a D fV fC b A z o len) (E a D fV fC A o len) [⟨a, fC.slot⟩, ⟨a, fV.slot⟩] 1 len := by
  refine Law.of_walk (plainFor_of_name (by decide +kernel)) (by decide +kernel) (by decide +kernel) (by decide) (fun _ _ h => by rw [h.1]; rfl) (fun _ U U' hal hh h => ⟨h.1, h.2.1.mv hal hh, h.2.2.1.al hal, h.2.2.2.1.al hal, h.2.2.2.2.1.mv hal hh, h.2.2.2.2.2.1.there hal hh, h.2.2.2.2.2.2⟩) (fun r U U' V V' h1 hal h2 h => Got.mv r U U' V V' h1 hal h2 h) ?_
  intro p e s m args below meth c s₁ X0 hexec hbytes hml hret hlk hnm hown hh0 W hP
  obtain ⟨rfl, hB, f1, f2, hA, s1, hz, l0, l1, l2, hp⟩ := hP
  have a31 := hA.1.2.2.2
  have c1 : Steps p.tables e below (s₁.setTop (entryFrame m #[.ref a, .ref b, .int (Int32.ofNat o), .int (Int32.ofNat len), .null] 6)) (s₁.setTop (mkF m 0 #[.val (.ref a), .val (.ref b), .val (.int (Int32.ofNat o)), .val (.int (Int32.ofNat len)), .val .null, .unset] [])) := entry rfl
  have c2 : Steps p.tables e below (s₁.setTop (entryFrame m #[.ref a, .ref b, .int (Int32.ofNat o), .int (Int32.ofNat len), .null] 6)) (s₁.setTop (mkF m 1 #[.val (.ref a), .val (.ref b), .val (.int (Int32.ofNat o)), .val (.int (Int32.ofNat len)), .val .null, .unset] [.ref a])) := c1.trans (by
    refine XS.aloadN X0.here hexec rfl (hb hbytes d0) rfl rfl ?_
    exact Steps.refl _)
  obtain ⟨T3, X3, q3, st3⟩ := X0.oinit hexec hown (wks W (objW "java/lang/String" 1)) (g := (mkF m 1 #[.val (.ref a), .val (.ref b), .val (.int (Int32.ofNat o)), .val (.int (Int32.ofNat len)), .val .null, .unset] [.ref a])) rfl (by rw [hml]; rfl) (rest := []) rfl (hb hbytes d1) (W := 0) (by show 2 * 0 + 0 ≤ _; decide) (Nat.le_of_ble_eq_true rfl) (Nat.le_of_ble_eq_true rfl)
  have hh3 := q3.trans hh0
  have c4 : Steps p.tables e below (s₁.setTop (entryFrame m #[.ref a, .ref b, .int (Int32.ofNat o), .int (Int32.ofNat len), .null] 6)) (T3.setTop (mkF m 27 #[.val (.ref a), .val (.ref b), .val (.int (Int32.ofNat o)), .val (.int (Int32.ofNat len)), .val .null, .unset] [])) := (c2.trans (st3 _ (Steps.refl _))).trans (by
    refine XS.iloadN X3.here hexec rfl (hb hbytes d4) rfl ?_
    refine XS.ifYes X3.here hexec rfl (pc0 := 5) rfl (hb hbytes d5) rfl (i0_ne_t (nz32 (by omega) l0)) (by decide) rfl ?_
    exact Steps.refl _)
  obtain ⟨T5, X5, q5, st5⟩ := X3.sget hexec hown (wk W (.fieldLink "java/lang/String" 38 "java/lang/String" "COMPACT_STRINGS" "Z")) s1 (fun _ _ h => by rw [hh3]; exact h) (g := (mkF m 27 #[.val (.ref a), .val (.ref b), .val (.int (Int32.ofNat o)), .val (.int (Int32.ofNat len)), .val .null, .unset] [])) rfl (hb hbytes d27)
  have hh5 := q5.trans hh3
  have c6 : Steps p.tables e below (s₁.setTop (entryFrame m #[.ref a, .ref b, .int (Int32.ofNat o), .int (Int32.ofNat len), .null] 6)) (T5.setTop (mkF m 30 #[.val (.ref a), .val (.ref b), .val (.int (Int32.ofNat o)), .val (.int (Int32.ofNat len)), .val .null, .unset] [.int z])) := c4.trans (st5 _ (Steps.refl _))
  have c7 : Steps p.tables e below (s₁.setTop (entryFrame m #[.ref a, .ref b, .int (Int32.ofNat o), .int (Int32.ofNat len), .null] 6)) (T5.setTop (mkF m 36 #[.val (.ref a), .val (.ref b), .val (.int (Int32.ofNat o)), .val (.int (Int32.ofNat len)), .val .null, .unset] [.int (Int32.ofNat len), .int (Int32.ofNat o), .ref b])) := c6.trans (by
    refine XS.ifNo X5.here hexec rfl (hb hbytes d30) rfl (i0_eq_f hz) ?_
    refine XS.aloadN X5.here hexec rfl (hb hbytes d33) rfl rfl ?_
    refine XS.iloadN X5.here hexec rfl (hb hbytes d34) rfl ?_
    refine XS.iloadN X5.here hexec rfl (hb hbytes d35) rfl ?_
    exact Steps.refl _)
  obtain ⟨v8, T8, X8, E8, g8⟩ := X5.callS hexec (Cmp3.law l b A o len) hown (wks W (staticW "java/lang/String" 177 Cmp3.yN)) (wk W Cmp3.tab) (W := 0) (Nat.le_of_ble_eq_true rfl) (Nat.le_of_ble_eq_true rfl) (Nat.le_refl _) (by show 0 + len ≤ len; omega) (g := (mkF m 36 #[.val (.ref a), .val (.ref b), .val (.int (Int32.ofNat o)), .val (.int (Int32.ofNat len)), .val .null, .unset] [.int (Int32.ofNat len), .int (Int32.ofNat o), .ref b])) rfl (by rw [hml]; rfl) c7 (argsL := [.ref b, .int (Int32.ofNat o), .int (Int32.ofNat len)]) (rest := []) rfl rfl (by show 2 * 0 + 0 ≤ _; decide) (hb hbytes d36) (⟨rfl, hA.mv X5.warmed.alike hh5, l1, l2, hp⟩)
  obtain ⟨e8, z8⟩ := E8
  obtain ⟨rfl, N, n1, n2, n3, n4, n5, n6⟩ := NewArr.mv _ T5 s _ _ hh5.symm (Vm.Alike.refl _) rfl e8
  rw [hh5] at z8
  have hB1 := hB.keep X8.warmed.alike (n6 _ _ hB.1)
  have hne : s.heap.size ≠ a := (Nat.ne_of_lt (Array.getElem?_eq_some_iff.mp hB.1).1).symm
  have c9 : Steps p.tables e below (s₁.setTop (entryFrame m #[.ref a, .ref b, .int (Int32.ofNat o), .int (Int32.ofNat len), .null] 6)) (T8.setTop (mkF m 39 #[.val (.ref a), .val (.ref b), .val (.int (Int32.ofNat o)), .val (.int (Int32.ofNat len)), .val .null, .unset] [.ref s.heap.size])) := g8
  have c10 : Steps p.tables e below (s₁.setTop (entryFrame m #[.ref a, .ref b, .int (Int32.ofNat o), .int (Int32.ofNat len), .null] 6)) (T8.setTop (mkF m 45 #[.val (.ref a), .val (.ref b), .val (.int (Int32.ofNat o)), .val (.int (Int32.ofNat len)), .val .null, .val (.ref s.heap.size)] [.int (Int32.ofNat N.slots.size), .ref s.heap.size, .ref a])) := by
    have hc : Steps p.tables e below (s₁.setTop (entryFrame m #[.ref a, .ref b, .int (Int32.ofNat o), .int (Int32.ofNat len), .null] 6)) (T8.setTop (mkF m 45 #[.val (.ref a), .val (.ref b), .val (.int (Int32.ofNat o)), .val (.int (Int32.ofNat len)), .val .null, .val (.ref s.heap.size)] [.int (Int32.ofNat len), .ref s.heap.size, .ref a])) := c9.trans (by
      refine XS.astore X8.here hexec rfl (hb hbytes d39) rfl rfl rfl ?_
      refine XS.aloadN X8.here hexec rfl (hb hbytes d41) rfl rfl ?_
      refine XS.aload X8.here hexec rfl (hb hbytes d42) rfl rfl ?_
      refine XS.iloadN X8.here hexec rfl (hb hbytes d44) rfl ?_
      exact Steps.refl _)
    rw [n4]; exact hc
  obtain ⟨v11, T11, X11, E11, g11⟩ := X8.callS hexec (CodL.law l s.heap.size N) hown (wks W (staticW "java/lang/String" 47 CodL.yN)) (wk W CodL.tab) (W := 1) (Nat.le_of_ble_eq_true rfl) (Nat.le_of_ble_eq_true rfl) (Nat.le_refl _) (by show 0 + len + 0 ≤ len; omega) (g := (mkF m 45 #[.val (.ref a), .val (.ref b), .val (.int (Int32.ofNat o)), .val (.int (Int32.ofNat len)), .val .null, .val (.ref s.heap.size)] [.int (Int32.ofNat N.slots.size), .ref s.heap.size, .ref a])) rfl (by rw [hml]; rfl) c10 (argsL := [.ref s.heap.size, .int (Int32.ofNat N.slots.size)]) (rest := [.ref a]) rfl rfl (by show 2 * 0 + (1 + 0) ≤ _; decide) (hb hbytes d45) (⟨rfl, n1⟩)
  obtain ⟨rfl, q11⟩ := E11
  have hB11 := hB1.mv (X8.warmed.alike.symm.trans X11.warmed.alike) q11
  have c12 : Steps p.tables e below (s₁.setTop (entryFrame m #[.ref a, .ref b, .int (Int32.ofNat o), .int (Int32.ofNat len), .null] 6)) (T11.setTop (mkF m 48 #[.val (.ref a), .val (.ref b), .val (.int (Int32.ofNat o)), .val (.int (Int32.ofNat len)), .val .null, .val (.ref s.heap.size)] [.int 0, .ref a])) := g11
  obtain ⟨T13, X13, p13, bl13, sl13, st13⟩ := X11.finit hexec hown (wk W (.fieldLink "java/lang/String" 15 "java/lang/String" "coder" "B")) (Or.inr ⟨_, (wk W (.laysFinal "java/lang/String" "java/lang/String" "coder" "B"))⟩) (Or.inl ⟨rfl, hnm⟩) f2 (Or.inl rfl) hB11 (t := .byte) (by decide +kernel) rfl (g := (mkF m 48 #[.val (.ref a), .val (.ref b), .val (.int (Int32.ofNat o)), .val (.int (Int32.ofNat len)), .val .null, .val (.ref s.heap.size)] [.int 0, .ref a])) rfl (rest := []) rfl (hb hbytes d48)
  have c14 : Steps p.tables e below (s₁.setTop (entryFrame m #[.ref a, .ref b, .int (Int32.ofNat o), .int (Int32.ofNat len), .null] 6)) (T13.setTop (mkF m 54 #[.val (.ref a), .val (.ref b), .val (.int (Int32.ofNat o)), .val (.int (Int32.ofNat len)), .val .null, .val (.ref s.heap.size)] [.ref s.heap.size, .ref a])) := (c12.trans (st13 _ (Steps.refl _))).trans (by
    refine XS.aloadN X13.here hexec rfl (hb hbytes d51) rfl rfl ?_
    refine XS.aload X13.here hexec rfl (hb hbytes d52) rfl rfl ?_
    exact Steps.refl _)
  obtain ⟨T15, X15, p15, bl15, sl15, st15⟩ := X13.finit hexec hown (wk W (.fieldLink "java/lang/String" 9 "java/lang/String" "value" "[B")) (Or.inr ⟨_, (wk W (.laysFinal "java/lang/String" "java/lang/String" "value" "[B"))⟩) (Or.inl ⟨rfl, hnm⟩) f1 (Or.inl rfl) bl13 (t := (.array .byte)) (by decide +kernel) rfl (g := (mkF m 54 #[.val (.ref a), .val (.ref b), .val (.int (Int32.ofNat o)), .val (.int (Int32.ofNat len)), .val .null, .val (.ref s.heap.size)] [.ref s.heap.size, .ref a])) rfl (rest := []) rfl (hb hbytes d54)
  have c16 : Steps p.tables e below (s₁.setTop (entryFrame m #[.ref a, .ref b, .int (Int32.ofNat o), .int (Int32.ofNat len), .null] 6)) (T15.setTop (mkF m 57 #[.val (.ref a), .val (.ref b), .val (.int (Int32.ofNat o)), .val (.int (Int32.ofNat len)), .val .null, .val (.ref s.heap.size)] [])) := c14.trans (st15 _ (Steps.refl _))
  have ap := apart (Or.inr ⟨_, (wk W (.laysFinal "java/lang/String" "java/lang/String" "value" "[B"))⟩) (Or.inr ⟨_, (wk W (.laysFinal "java/lang/String" "java/lang/String" "coder" "B"))⟩) f1 f2 (t₁ := .array .byte) (t₂ := .byte) (by decide +kernel) (by decide +kernel) (by decide)
  have al := X8.warmed.alike.symm.trans X15.warmed.alike
  have n7 : T11.heap[s.heap.size]? = some N := by rw [q11]; exact n1.1
  exact ⟨T15, none, _, _, _, X15, by simp, rfl, by omega, (fun _ => rfl), ⟨rfl, _, N, bl15, ((Same.refl D _).set _ (by simp)).set _ (by simp), sl15, (Cell.slots_setSlot_ne _ ap).trans sl13, n1.keep al (p15.other hne (p13.other hne n7)), n2, by rw [al.findClass]; exact n3, n4, n5, fun y c h1 h2 => p15.other h1 (p13.other h1 (by rw [q11]; exact n6 y c h2)), by rw [p15.2.2, p13.2.2, q11]; exact z8⟩, fun fs hl => c16.trans (X15.returnOut hexec hret (hb hbytes d57) hl)⟩
end New4
namespace New1
def yN : MethodName := ⟨"java/lang/String", "<init>", "([C)V"⟩
abbrev yB : ByteArray := jdk_42_method_3_code
theorem d0 : decode yB 0 = .ok (.aload_n 0, 1) := by decide +kernel
theorem d1 : decode yB 1 = .ok (.aload_n 1, 1) := by decide +kernel
theorem d2 : decode yB 2 = .ok (.iconst 0, 1) := by decide +kernel
theorem d3 : decode yB 3 = .ok (.aload_n 1, 1) := by decide +kernel
theorem d4 : decode yB 4 = .ok (.arraylength, 1) := by decide +kernel
theorem d5 : decode yB 5 = .ok (.aconst_null, 1) := by decide +kernel
theorem d6 : decode yB 6 = .ok (.invokespecial 27, 3) := by decide +kernel
theorem d9 : decode yB 9 = .ok (.return_, 1) := by decide +kernel
def site : List Cond := [New4.tab] ++ initW "java/lang/String" 27 New4.yN
def tab : Cond := tabOf yN yB 2 none site
def P (a : Addr) (D : Cell) (fV fC : Field) (b : Addr) (A : Cell) (z : Int32) (args : Array Value) (s : State) : Prop := args = #[.ref a, .ref b] ∧ Blank "java/lang/String" a D s ∧ Found "java/lang/String" "value" "[B" fV s ∧ Found "java/lang/String" "coder" "B" fC s ∧ Ch b A s ∧ StaticIs s "java/lang/String" "COMPACT_STRINGS" "Z" (.int z) ∧ ¬ z = 0 ∧ 0 < A.slots.size ∧ A.slots.size ≤ 536870912 ∧ ∀ i, i < A.slots.size → ¬ 255 < cv A i
def E (a : Addr) (D : Cell) (fV fC : Field) (A : Cell) (r : Option Value) (s u : State) : Prop := Got a D fV fC A 0 A.slots.size r s u
/-- new String(chars), not empty, no char above 255: a Latin-1 String of their low bytes -/
theorem law (l : Launch) (a : Addr) (D : Cell) (fV fC : Field) (b : Addr) (A : Cell) (z : Int32) : Law l yN 2 1 3 52 yB 2 none site (P a D fV fC b A z) (E a D fV fC A) [⟨a, fC.slot⟩, ⟨a, fV.slot⟩] 1 A.slots.size := by
  refine Law.of_walk (plainFor_of_name (by decide +kernel)) (by decide +kernel) (by decide +kernel) (by decide) (fun _ _ h => by rw [h.1]; rfl) (fun _ U U' hal hh h => ⟨h.1, h.2.1.mv hal hh, h.2.2.1.al hal, h.2.2.2.1.al hal, h.2.2.2.2.1.mv hal hh, h.2.2.2.2.2.1.there hal hh, h.2.2.2.2.2.2⟩) (fun r U U' V V' h1 hal h2 h => Got.mv r U U' V V' h1 hal h2 h) ?_
  intro p e s m args below meth c s₁ X0 hexec hbytes hml hret hlk hnm hown hh0 W hP
  obtain ⟨rfl, hB, f1, f2, hA, s1, hz, l0, l2, hp⟩ := hP
  have c1 : Steps p.tables e below (s₁.setTop (entryFrame m #[.ref a, .ref b] 2)) (s₁.setTop (mkF m 0 #[.val (.ref a), .val (.ref b)] [])) := entry rfl
  have c2 : Steps p.tables e below (s₁.setTop (entryFrame m #[.ref a, .ref b] 2)) (s₁.setTop (mkF m 6 #[.val (.ref a), .val (.ref b)] [.null, .int (Int32.ofNat A.slots.size), .int 0, .ref b, .ref a])) := c1.trans (by
    refine XS.aloadN X0.here hexec rfl (hb hbytes d0) rfl rfl ?_
    refine XS.aloadN X0.here hexec rfl (hb hbytes d1) rfl rfl ?_
    refine iconstV X0.here hexec rfl 0 (hb hbytes d2) (by decide) ?_
    refine XS.aloadN X0.here hexec rfl (hb hbytes d3) rfl rfl ?_
    refine X0.alen hexec (hA.1.mv X0.warmed.alike hh0) rfl rfl (hb hbytes d4) ?_
    refine XS.aconstNull X0.here hexec rfl (hb hbytes d5) ?_
    exact Steps.refl _)
  obtain ⟨v3, T3, X3, E3, g3⟩ := X0.callN hexec (New4.law l a D fV fC b A z 0 A.slots.size) rfl hown (wks W (initW "java/lang/String" 27 New4.yN)) (W New4.tab (by simp only [site, List.mem_cons, List.mem_append, true_or, or_true])) (W := 0) (Nat.le_of_ble_eq_true rfl) (Nat.le_of_ble_eq_true rfl) (Nat.le_refl _) (by show 0 + A.slots.size ≤ A.slots.size; omega) (g := (mkF m 6 #[.val (.ref a), .val (.ref b)] [.null, .int (Int32.ofNat A.slots.size), .int (Int32.ofNat 0), .ref b, .ref a])) rfl (by rw [hml]; rfl) c2 (argsL := [.ref b, .int (Int32.ofNat 0), .int (Int32.ofNat A.slots.size), .null]) (rest := []) rfl rfl (by show 2 * 0 + 0 ≤ _; decide) (hb hbytes d6) (⟨rfl, hB.mv X0.warmed.alike hh0, f1.al X0.warmed.alike, f2.al X0.warmed.alike, hA.mv X0.warmed.alike hh0, s1.there X0.warmed.alike hh0, hz, l0, by omega, l2, fun i hi => by rw [Nat.zero_add]; exact hp i hi⟩)
  have e0 := Got.mv _ s₁ s _ _ hh0.symm (Vm.Alike.refl _) rfl E3
  obtain rfl := e0.1
  have c4 : Steps p.tables e below (s₁.setTop (entryFrame m #[.ref a, .ref b] 2)) (T3.setTop (mkF m 9 #[.val (.ref a), .val (.ref b)] [])) := g3
  exact ⟨T3, none, _, _, _, X3, by simp, rfl, by omega, (fun _ => rfl), e0, fun fs hl => c4.trans (X3.returnOut hexec hret (hb hbytes d9) hl)⟩
theorem pays {l : Launch} {R : Room} {p : Program} {e : Env} {below : List Frame} {s : State} {sargs : Array Value} {len W : Nat} (a : Addr) (D : Cell) (fV fC : Field) (b : Addr) (A : Cell) (z : Int32) (htab : tab.before sargs s = true) (hfr : 4 ≤ R.frames) (hlo : W + 65 ≤ R.locals) :
    Back l R p e below s sargs yN len W (fun A₁ a₁ => A₁.cells + 1 ≤ R.cells ∧ A₁.slots + A.slots.size ≤ R.slots ∧ P a D fV fC b A z a₁ A₁.U) (fun A₁ _ v₁ B₁ => E a D fV fC A v₁ A₁.U B₁.U ∧ B₁.locs = A₁.locs ++ [⟨a, fC.slot⟩, ⟨a, fV.slot⟩] ∧ B₁.cells = A₁.cells + 1 ∧ B₁.slots = A₁.slots + A.slots.size) :=
  (law l a D fV fC b A z).pays htab hfr (by omega)
end New1
/-- the byte, read back as charAt reads it, is the char -/
theorem lo8_mask {x : Int32} (h0 : ¬ x < 0) (h1 : ¬ 255 < x) : lo8 x &&& 255 = x := by
  have t : ∀ k : Fin 256, lo8 (Int32.ofNat k.val) &&& 255 = Int32.ofNat k.val := by decide +kernel
  rw [Int32.lt_iff_toInt_lt] at h0 h1
  have e0 : (0 : Int32).toInt = 0 := rfl
  have e1 : (255 : Int32).toInt = 255 := rfl
  obtain ⟨k, hk⟩ : ∃ k : Nat, x.toInt = k := ⟨x.toInt.toNat, by omega⟩
  have hx : x = Int32.ofNat k := Int32.toInt_inj.mp (by rw [hk, Int32.toInt_ofNat_small (by omega)])
  rw [hx]
  exact t ⟨k, by omega⟩
end StrChars
namespace StrChars.Road
open Jvm Sem ClassFile Op Lib Jvm.Stand Jvm.Free Jvm.Free.XT
open Jvm.Lib.Cold (StaticIs)
abbrev ST : String := "java/lang/String"
/-- every table word that New1's law asks, flat -/
abbrev words : List Jvm.Cond := [.code New1.yN New1.yB 2 none, .initialized ST, .methodLink ST 27 New4.yN, .instanceMethod New4.yN,
  .code New4.yN New4.yB 6 none, .fieldLink ST 38 ST "COMPACT_STRINGS" "Z", .laysFinal ST ST "value" "[B", .fieldLink ST 9 ST "value" "[B", .laysFinal ST ST "coder" "B", .fieldLink ST 15 ST "coder" "B",
  .methodLink ST 1 Lib.objectInit, .instanceMethod Lib.objectInit, .code Lib.objectInit ⟨#[0xb1]⟩ 1 none, .methodLink ST 177 Cmp3.yN, .static Cmp3.yN, .methodLink ST 47 CodL.yN, .static CodL.yN,
  .code Cmp3.yN Cmp3.yB 6 (some (.array .byte)), .initialized U16, .arrayClass .byte, .methodLink U16 115 Cmp5.yN, .static Cmp5.yN, .code Cmp5.yN Cmp5.yB 7 (some .int), .code CodL.yN CodL.yB 2 (some .byte)]
theorem tab_of {a : Array Value} {s : State} (h : ∀ w ∈ words, w.before a s = true) : New1.tab.before a s = true := by
  have h5 : Cmp5.tab.before a s = true := unparts (wk h (.code Cmp5.yN Cmp5.yB 7 (some .int))) (wks h (.initialized Cmp5.yN.cls :: Cmp5.site))
  have hc : CodL.tab.before a s = true := unparts (wk h (.code CodL.yN CodL.yB 2 (some .byte))) (wks h (.initialized CodL.yN.cls :: CodL.site))
  have q5 : ∀ w ∈ Cmp5.tab :: words, w.before a s = true := fun w hw => (List.mem_cons.mp hw).elim (fun e => e ▸ h5) (h w)
  have h3 : Cmp3.tab.before a s = true := unparts (wk q5 (.code Cmp3.yN Cmp3.yB 6 (some (.array .byte)))) (wks q5 (.initialized Cmp3.yN.cls :: Cmp3.site))
  have q3 : ∀ w ∈ Cmp3.tab :: CodL.tab :: words, w.before a s = true := fun w hw => (List.mem_cons.mp hw).elim (fun e => e ▸ h3) fun hw => (List.mem_cons.mp hw).elim (fun e => e ▸ hc) (h w)
  have h4 : New4.tab.before a s = true := unparts (wk q3 (.code New4.yN New4.yB 6 none)) (wks q3 (.initialized New4.yN.cls :: New4.site))
  have q4 : ∀ w ∈ New4.tab :: words, w.before a s = true := fun w hw => (List.mem_cons.mp hw).elim (fun e => e ▸ h4) (h w)
  exact unparts (wk q4 (.code New1.yN New1.yB 2 none)) (wks q4 (.initialized New1.yN.cls :: New1.site))
/-- the words ride from the start Z to the walk's own state -/
theorem moved {Z s : State} {a0 args : Array Value} (hZ : Z.Warmed39 s.vm) (hw : ∀ d ∈ words, d.before a0 Z = true) : ∀ d ∈ words, d.before args s = true := fun d hd => by
  have q := hw d hd
  have t : ∀ d ∈ words, d = .arrayClass .byte ∨ (d.onTables && d.keepsFace) = true := by decide +kernel
  rcases t d hd with rfl | t
  · exact RoadKit.mvA hZ q
  · exact RoadKit.mv hZ q t
/-- WHAT COMES BACK, over the tables of the start Z: h the heap at the call, h' behind it -/
def Q (Z : State) (x : Addr) (A : Cell) (h : Heap) (v : Option Value) (h' : Heap) (L : List Loc) : Prop := v = none ∧ (∀ y ∈ L, y.base = x) ∧ RoadKit.Keep h h' [x] ∧ h'.size = h.size + 1 ∧ RoadKit.Exa Z h' x ST ∧ RoadKit.Fld Z h' x ST "value" "[B" (.ref h.size) ∧ RoadKit.Fld Z h' x ST "coder" "B" (.int 0) ∧
  (∃ V : Cell, RoadKit.Arr Z h' h.size V .byte ∧ V.vm = .none ∧ Z.vm.findClass "[B" = some V.cls ∧ V.slots.size = A.slots.size ∧ ∀ j, j < A.slots.size → V.slots[j]? = some (.int (lo8 (cv A j)))) ∧
  ∀ (O n d : String) (w : Value), RoadKit.Fld Z h x O n d w → RoadKit.slotOf Z O n d ≠ RoadKit.slotOf Z ST "value" "[B" → RoadKit.slotOf Z O n d ≠ RoadKit.slotOf Z ST "coder" "B" → RoadKit.Fld Z h' x O n d w
/-- **new String(chars) AT A CALL, IN THE ROAD'S FORM**: for specialBack behind newO: x the fresh String, b the char[] with the cell A -/
theorem back {p : Program} {l : Launch} {e : Env} {R : Room} {s : State} {args : Array Value} {below : List Frame} {len W : Nat} {Z : State} {a0 : Array Value} {h : Heap} (hZ : Z.Warmed39 s.vm) (hw : ∀ d ∈ words, d.before a0 Z = true) {kI : Nat} (wi : (Jvm.Cond.instantiable ST kI).before a0 Z = true)
    {x b : Addr} {A : Cell} {z : Int32} {v0 c0 : Value} (E : RoadKit.Exa Z h x ST) (V : RoadKit.Fld Z h x ST "value" "[B" v0) (C : RoadKit.Fld Z h x ST "coder" "B" c0) (K : RoadKit.Arr Z h b A .char) (hty : Typed .char A) (S : RoadKit.Sta Z h ST "COMPACT_STRINGS" "Z" (.int z)) (hz : ¬ z = 0)
    (l0 : 0 < A.slots.size) (l2 : A.slots.size ≤ 536870912) (hp : ∀ i, i < A.slots.size → ¬ 255 < cv A i) (hfr : 4 ≤ R.frames) (hlo : W + 65 ≤ R.locals) :
    Back l R p e below s args New1.yN len W (fun P a => a = #[.ref x, .ref b] ∧ P.U.heap = h ∧ P.cells + 1 ≤ R.cells ∧ P.slots + A.slots.size ≤ R.slots)
      (fun P _ v B => ∃ L, Q Z x A h v B.U.heap L ∧ B.locs = P.locs ++ L ∧ B.cells = P.cells + 1 ∧ B.slots = P.slots + A.slots.size) := by
  intro m meth c P g ig mk a X hg hsize hdg hW hn hp'
  obtain ⟨rfl, rfl, r1, r2⟩ := hp'
  have al : Z.vm.Alike P.U.vm := hZ.alike.trans X.warmed.alike
  obtain ⟨D, cfV, kV, iV, fV, hD, gV, stV, knV, obV, asV, slV⟩ := id V
  obtain ⟨D', cfC, kC, iC, fC, hD', gC, stC, -, -, asC, slC⟩ := id C
  cases hD.symm.trans hD'
  obtain ⟨D2, kD, e1, e2, e3, e4, e5⟩ := id E
  cases hD.symm.trans e1
  obtain ⟨c2, k2, i1, i2, i3, -⟩ := Cond.instantiable_spec wi
  cases e2.symm.trans i1
  cases e3.symm.trans i2
  obtain ⟨kU, u1, u2⟩ := al.2.2 _ _ e3
  have hB : Blank ST x D P.U := ⟨hD, ⟨knV, fun q hq => by rw [hq] at obV; cases obV⟩, by rw [al.findClass]; exact e2, kU, u1, by rw [u2]; exact i3, by rw [u2]; exact e5 i3⟩
  have F1 : Found ST "value" "[B" fV P.U := ⟨SBG.found_only al ⟨cfV, kV, iV, gV⟩, stV⟩
  have F2 : Found ST "coder" "B" fC P.U := ⟨SBG.found_only al ⟨cfC, kC, iC, gC⟩, stC⟩
  have hA : Ch b A P.U := ⟨⟨K.1, State.isArrayOf_alike al K.2.1, K.2.2, by omega⟩, hty⟩
  have hS : StaticIs P.U ST "COMPACT_STRINGS" "Z" (.int z) := by
    obtain ⟨cfS, iS, kS, fS, st, cS, t1, t2, t3, t4, t5, t6, t7⟩ := S
    exact StaticIs.there (s := { Z with heap := P.U.heap }) ⟨cfS, iS, kS, fS, st, cS, t1, t2, t3, t4, t5, (fun q => by rw [q] at t6; cases t6), t7⟩ al rfl
  obtain ⟨v, B, X', ⟨⟨hv, E', V', q1, q2, q3, q4, q5, q6, q7, q8, q9, q10, q11⟩, hl, hc, hs⟩, st⟩ := New1.pays x D fV fC b A z (tab_of (moved hZ hw)) hfr hlo m meth c P g ig mk _ X hg hsize hdg hW hn ⟨r1, r2, rfl, hB, F1, F2, hA, hS, hz, l0, l2, hp⟩
  have al' : Z.vm.Alike B.U.vm := hZ.alike.trans X'.warmed.alike
  have hsz : E'.slots.size = D.slots.size := by
    obtain ⟨-, -, -, kB, w1, w2, w3⟩ := q1
    obtain ⟨kB', y1, y2⟩ := al'.2.2 _ _ e3
    rw [q2.2.1] at w1
    cases w1.symm.trans y1
    rw [w3, e5 i3, y2]
  refine ⟨v, B, X', ⟨_, ⟨hv, ?_, ⟨by omega, fun y cy hy hn' => q10 y cy (by simpa using hn') hy, fun y cy hy => ?_⟩, q11, ⟨E', _, q1.1, by rw [q2.2.1]; exact e2, by rw [q2.2.1]; exact e3, by rw [q2.1]; exact obV, fun _ => by rw [hsz]; exact e5 i3⟩,
    ⟨E', cfV, kV, iV, fV, q1.1, gV, stV, by rw [q2.1]; exact knV, by rw [q2.1]; exact obV, by rw [q2.2.1]; exact asV, q3⟩, ⟨E', cfC, kC, iC, fC, q1.1, gC, stC, by rw [q2.1]; exact knV, by rw [q2.1]; exact obV, by rw [q2.2.1]; exact asC, q4⟩,
    ⟨V', ⟨q5.1, State.isArrayOf_alike al'.symm q5.2.1, q5.2.2.1⟩, q6, by rw [← al'.findClass]; exact q7, q8, fun j hj => by have := q9 j hj; rwa [Nat.zero_add] at this⟩, fun O n d w F n1 n2 => ?_⟩, hl, hc, hs⟩, st⟩
  · intro y hy
    simp only [List.mem_cons, List.not_mem_nil, or_false] at hy
    rcases hy with rfl | rfl <;> rfl
  · by_cases q : y = x
    · subst q
      cases hD.symm.trans hy
      exact ⟨E', q1.1, q2.2.1, q2.1, hsz⟩
    · exact ⟨cy, q10 y cy q hy, rfl, rfl, rfl⟩
  · obtain ⟨D3, cf, k, i, f, g1, g2, g3, g4, g5, g6, g7⟩ := F
    cases hD.symm.trans g1
    simp only [RoadKit.slotOf, g2, gV, gC, Option.map_some, Option.getD_some] at n1 n2
    exact ⟨E', cf, k, i, f, q1.1, g2, g3, by rw [q2.1]; exact g4, by rw [q2.1]; exact g5, by rw [q2.2.1]; exact g6, by rw [q2.2.2 f.slot (by simp [n1, n2])]; exact g7⟩
end StrChars.Road
namespace StrChars.Road
open Jvm Sem ClassFile Op Lib Jvm.Stand Jvm.Free Jvm.Free.XT
/-- WHAT COMES BACK, the byte[] as a list of values -/
def QA (Z : State) (x : Addr) (zn : Int32) (cs : List Int32) (h : Heap) (v : Option Value) (h' : Heap) (L : List Loc) : Prop := v = none ∧ (∀ y ∈ L, y.base = x) ∧ RoadKit.Keep h h' [x] ∧ h'.size = h.size + 1 ∧ RoadKit.Exa Z h' x ST ∧ RoadKit.Fld Z h' x ST "value" "[B" (.ref h.size) ∧ RoadKit.Fld Z h' x ST "coder" "B" (.int 0) ∧
  (∃ kb, Z.vm.findClass "[B" = some kb ∧ RoadKit.Arv Z h' h.size kb .byte zn (cs.map fun c => .int (lo8 c)) (.int 0)) ∧
  ∀ (O n d : String) (w : Value), RoadKit.Fld Z h x O n d w → RoadKit.slotOf Z O n d ≠ RoadKit.slotOf Z ST "value" "[B" → RoadKit.slotOf Z O n d ≠ RoadKit.slotOf Z ST "coder" "B" → RoadKit.Fld Z h' x O n d w
/-- **new String(chars) AT A CALL, THE ARRAYS AS LISTS**: the char[] at b holds cs, not empty, no char above 255 -/
theorem backArv {p : Program} {l : Launch} {e : Env} {R : Room} {s : State} {args : Array Value} {below : List Frame} {len W : Nat} {Z : State} {a0 : Array Value} {h : Heap} (hZ : Z.Warmed39 s.vm) (hw : ∀ d ∈ words, d.before a0 Z = true) {kI : Nat} (wi : (Jvm.Cond.instantiable ST kI).before a0 Z = true)
    {x b : Addr} {k : ClassId} {zn z : Int32} {cs : List Int32} {dv v0 c0 : Value} (E : RoadKit.Exa Z h x ST) (V : RoadKit.Fld Z h x ST "value" "[B" v0) (C : RoadKit.Fld Z h x ST "coder" "B" c0) (K : RoadKit.Arv Z h b k .char zn (cs.map Value.int) dv) (S : RoadKit.Sta Z h ST "COMPACT_STRINGS" "Z" (.int z)) (hz : ¬ z = 0)
    (hlen : zn.toNatClampNeg = cs.length) (h0 : 0 < cs.length) (hbig : cs.length ≤ 536870912) (hall : ∀ c ∈ cs, ¬ 255 < c) (hfr : 4 ≤ R.frames) (hlo : W + 65 ≤ R.locals) :
    Back l R p e below s args New1.yN len W (fun P a => a = #[.ref x, .ref b] ∧ P.U.heap = h ∧ P.cells + 1 ≤ R.cells ∧ P.slots + cs.length ≤ R.slots)
      (fun P _ v B => ∃ L, QA Z x zn cs h v B.U.heap L ∧ B.locs = P.locs ++ L ∧ B.cells = P.cells + 1 ∧ B.slots = P.slots + cs.length) := by
  obtain ⟨A, K1, K2, K3, K4, K5, K6⟩ := K
  have e : A.slots.size = cs.length := K3.trans hlen
  have hat : ∀ (i : Nat) (hi : i < cs.length), A.slots[i]? = some (.int cs[i]) := fun i hi => by rw [K5 i (by omega)]; simp [List.getD_eq_getElem?_getD, hi]
  have hcv : ∀ (i : Nat) (hi : i < cs.length), cv A i = cs[i] := fun i hi => by unfold cv; rw [hat i hi]
  have hty : Typed .char A := fun i v hv => by
    have hi : i < A.slots.size := (Array.getElem?_eq_some_iff.mp hv).1
    have q := K5 i hi
    rw [hv] at q
    rw [Option.some.inj q]
    exact K6 i hi
  refine Back.mono (back hZ hw wi E V C K1 hty S hz (by omega) (by omega) (fun i hi => by rw [hcv i (by omega)]; exact hall _ (List.getElem_mem _)) hfr hlo) (fun P a hp => ⟨hp.1, hp.2.1, hp.2.2.1, by rw [e]; exact hp.2.2.2⟩) (fun P a v B hp hq => ?_)
  obtain ⟨L, ⟨q1, q2, q3, q4, q5, q6, q7, ⟨V', v1, v2, v3, v4, v5⟩, q9⟩, hl, hc, hs⟩ := hq
  refine ⟨L, ⟨q1, q2, q3, q4, q5, q6, q7, ⟨V'.cls, v3, V', v1, rfl, by rw [v4, e, hlen], K4, fun i hi => ?_, fun i hi => ?_⟩, q9⟩, hl, hc, by rw [hs, e]⟩
  · have hi' : i < cs.length := by omega
    rw [v5 i (by omega), hcv i hi']; simp [List.getD_eq_getElem?_getD, hi']
  · have hi' : i < cs.length := by omega
    simp only [List.getD_eq_getElem?_getD, List.getElem?_map, List.getElem?_eq_getElem hi', Option.map_some, Option.getD_some]
    exact fits_lo8 _
end StrChars.Road
namespace StrChars.Road
open Jvm Sem ClassFile Op Lib Jvm.Stand Jvm.Free Jvm.Free.XT
/-- WHAT COMES BACK, in the writer's own shape -/
def QV (Z : State) (x : Addr) (N : Int32) (bs : List Int32) (h : Heap) (n0 : Nat) (v : Option Value) (h' : Heap) (L : List Loc) : Prop := v = none ∧ RoadKit.Fr n0 L ∧ RoadKit.Keep h h' [x] ∧ RoadKit.Exa Z h' x ST ∧ RoadKit.Fld Z h' x ST "coder" "B" (.int 0) ∧
  ∃ (t : Addr) (kb : ClassId), n0 ≤ t ∧ h.size ≤ t ∧ ¬ t = x ∧ RoadKit.Fld Z h' x ST "value" "[B" (.ref t) ∧ RoadKit.Arv Z h' t kb .byte N (bs.map Value.int) (.int 0)
/-- **new String(chars) AT A CALL, FOR THE WRITER**: a char[] of n known ints, each 0 to 255 -/
theorem backV {p : Program} {l : Launch} {e : Env} {R : Room} {s : State} {args : Array Value} {below : List Frame} {len W : Nat} {Z : State} {a0 : Array Value} {h : Heap} (hZ : Z.Warmed39 s.vm) (hw : ∀ d ∈ words, d.before a0 Z = true) {kI : Nat} (wi : (Jvm.Cond.instantiable ST kI).before a0 Z = true)
    {x b : Addr} {kC : ClassId} {cs bs : List Int32} {d v0 c0 : Value} {z N : Int32} {n n0 : Nat} (hx0 : n0 ≤ x) (hh0 : n0 ≤ h.size) (E : RoadKit.Exa Z h x ST) (V : RoadKit.Fld Z h x ST "value" "[B" v0) (C : RoadKit.Fld Z h x ST "coder" "B" c0) (K : RoadKit.Arv Z h b kC .char N (cs.map Value.int) d) (S : RoadKit.Sta Z h ST "COMPACT_STRINGS" "Z" (.int z)) (hz : ¬ z = 0)
    (hn : cs.length = n) (hN : N = Int32.ofNat n) (l0 : 0 < n) (l2 : n ≤ 4000) (hp : ∀ c ∈ cs, ¬ c < 0 ∧ ¬ (255 : Int32) < c) (hb : bs = cs.map (fun c => c.toInt8.toInt32)) (hfr : 4 ≤ R.frames) (hlo : W + 65 ≤ R.locals) :
    Back l R p e below s args (⟨"java/lang/String", "<init>", "([C)V"⟩ : MethodName) len W (fun P a => a = #[.ref x, .ref b] ∧ P.U.heap = h ∧ P.cells + 1 ≤ R.cells ∧ P.slots + n ≤ R.slots)
      (fun P _ v B => ∃ L, QV Z x N bs h n0 v B.U.heap L ∧ B.locs = P.locs ++ L ∧ B.cells = P.cells + 1 ∧ B.slots = P.slots + n) := by
  subst hn hN hb
  refine Back.mono (backArv hZ hw wi E V C K S hz (n32 (by omega)) l0 (by omega) (fun c hc => (hp c hc).2) hfr hlo) (fun P a hp => hp) (fun P a v B hp hq => ?_)
  obtain ⟨L, ⟨q1, q2, q3, q4, q5, q6, q7, ⟨kb, v1, v2⟩, q9⟩, hl, hc, hs⟩ := hq
  exact ⟨L, ⟨q1, fun y hy => by rw [q2 y hy]; exact hx0, q3, q5, q7, h.size, kb, hh0, Nat.le_refl _, Nat.ne_of_gt E.lt, q6, by rw [List.map_map]; exact v2⟩, hl, hc, hs⟩
end StrChars.Road
namespace StrChars
open Jvm Sem ClassFile Op Lib Jvm.Stand Jvm.Free.XT Jvm.Free.ALB Jvm.Free.JM Jvm.Free
open Jvm.Lib.Cold (StaticIs)
def hi8 (x : Int32) : Int32 := lo8 (x >>> ((8 : Int32) &&& 31))
/-- what StringUTF16.getChar makes of two bytes -/
def pairCh (u v : Int32) : Int32 := (((u &&& 255) <<< ((0 : Int32) &&& 31)) ||| ((v &&& 255) <<< ((8 : Int32) &&& 31))).toUInt32.toUInt16.toUInt32.toInt32
theorem lo8_and (x : Int32) : (lo8 x &&& 255).toBitVec.toNat = x.toBitVec.toNat % 256 := by
  have h : (lo8 x).toBitVec = (x.toBitVec.signExtend 8).signExtend 32 := by rw [lo8, Int8.toBitVec_toInt32, Int32.toBitVec_toInt8]
  rw [Int32.toBitVec_and, BitVec.toNat_and, h]
  have e : ((x.toBitVec.signExtend 8).signExtend 32).toNat % 256 = x.toBitVec.toNat % 256 := by
    rw [BitVec.toNat_signExtend]
    have hlt := x.toBitVec.isLt
    simp only [BitVec.toNat_setWidth, BitVec.toNat_signExtend]
    split <;> split <;> omega
  rw [← e]
  exact Nat.and_two_pow_sub_one_eq_mod _ 8
theorem pair_says {c : Int32} (h0 : ¬ c < 0) (h1 : ¬ 65535 < c) : pairCh (lo8 c) (hi8 c) = c := by
  rw [Int32.lt_iff_toInt_lt] at h0 h1
  have e0 : (0 : Int32).toInt = 0 := rfl
  have e1 : (65535 : Int32).toInt = 65535 := rfl
  have hc : c.toInt = c.toBitVec.toNat := by
    have := c.toBitVec.isLt
    have e : c.toInt = c.toBitVec.toInt := rfl
    rw [e] at h0 h1
    rw [e]
    rw [BitVec.toInt_eq_toNat_cond] at h0 h1 ⊢
    split at h0 <;> split <;> omega
  have hn : c.toBitVec.toNat < 65536 := by omega
  have a1 := lo8_and c
  have a2 : (hi8 c &&& 255).toBitVec.toNat = c.toBitVec.toNat / 256 := by
    rw [hi8, lo8_and]
    have e : ((8 : Int32) &&& 31) = 8 := by decide
    rw [e, Int32.toBitVec_shiftRight]
    have e2 : ((8 : Int32).toBitVec.smod 32) = 8#32 := by decide
    rw [e2, BitVec.sshiftRight_eq', BitVec.toNat_sshiftRight_of_msb_false (by rw [BitVec.msb_eq_false_iff_two_mul_lt]; omega)]
    show c.toBitVec.toNat >>> 8 % 256 = _
    rw [Nat.shiftRight_eq_div_pow]
    omega
  unfold pairCh
  apply Int32.toBitVec_inj.mp
  apply BitVec.eq_of_toNat_eq
  have f0 : ((0 : Int32) &&& 31) = 0 := by decide
  have f8 : ((8 : Int32) &&& 31) = 8 := by decide
  rw [f0, f8]
  have g : (((lo8 c &&& 255) <<< (0 : Int32)) ||| ((hi8 c &&& 255) <<< (8 : Int32))).toBitVec.toNat = c.toBitVec.toNat := by
    rw [Int32.toBitVec_or, Int32.toBitVec_shiftLeft, Int32.toBitVec_shiftLeft]
    have s0 : ((0 : Int32).toBitVec.smod 32) = 0#32 := by decide
    have s8 : ((8 : Int32).toBitVec.smod 32) = 8#32 := by decide
    rw [s0, s8, BitVec.toNat_or]
    simp only [BitVec.shiftLeft_eq', BitVec.toNat_shiftLeft, a1, a2]
    show (c.toBitVec.toNat % 256) <<< 0 % 2 ^ 32 ||| (c.toBitVec.toNat / 256) <<< 8 % 2 ^ 32 = _
    rw [Nat.shiftLeft_zero, Nat.mod_eq_of_lt (show c.toBitVec.toNat % 256 < 2 ^ 32 by omega), Nat.mod_eq_of_lt (show (c.toBitVec.toNat / 256) <<< 8 < 2 ^ 32 by rw [Nat.shiftLeft_eq]; omega), Nat.or_comm, ← Nat.shiftLeft_add_eq_or_of_lt (by omega), Nat.shiftLeft_eq]
    omega
  show BitVec.toNat (((((lo8 c &&& 255) <<< (0 : Int32)) ||| ((hi8 c &&& 255) <<< (8 : Int32))).toBitVec.setWidth 16).setWidth 32) = _
  rw [BitVec.toNat_setWidth, BitVec.toNat_setWidth, g]
  omega
end StrChars
namespace StrChars
open Jvm Sem ClassFile Op Lib Jvm.Stand Jvm.Free.XT Jvm.Free.ALB Jvm.Free.JM Jvm.Free
open Jvm.Lib.Cold (StaticIs)
/-- the array's cell V codes the n chars f 0 .. f (n - 1) by the coder cd, as the JDK does: coder 1 just where some char is above 255 -/
def Cod (cd : Int32) (n : Nat) (f : Nat → Int32) (V : Cell) : Prop := (cd = 0 ∧ V.slots.size = n ∧ ∀ j, j < n → V.slots[j]? = some (.int (lo8 (f j))) ∧ ¬ 255 < f j) ∨ (cd = 1 ∧ V.slots.size = 2 * n ∧ (∀ j, j < n → V.slots[2 * j]? = some (.int (lo8 (f j))) ∧ V.slots[2 * j + 1]? = some (.int (hi8 (f j)))) ∧ ∃ j, j < n ∧ 255 < f j)
/-- **x is a String of the n chars f 0 .. f (n - 1)**, Latin-1 or UTF-16; its array at t has the cell V -/
def Txt (x t : Addr) (V : Cell) (cd : Int32) (n : Nat) (f : Nat → Int32) (U : State) : Prop := Exact "java/lang/String" x U ∧ Has x "java/lang/String" "value" "[B" (.ref t) U ∧ Has x "java/lang/String" "coder" "B" (.int cd) U ∧ XT.Arr .byte t V U ∧ Cod cd n f V ∧ ∀ j, j < n → ¬ f j < 0 ∧ ¬ 65535 < f j
theorem Txt.mv {x t : Addr} {V : Cell} {cd : Int32} {n : Nat} {f : Nat → Int32} {U U' : State} (h : Txt x t V cd n f U) (hal : U.vm.Alike U'.vm) (hh : U'.heap = U.heap) : Txt x t V cd n f U' := ⟨h.1.mv hal hh, h.2.1.mv hal hh, h.2.2.1.mv hal hh, h.2.2.2.1.mv hal hh, h.2.2.2.2⟩
end StrChars
namespace StrChars.Road
open Jvm Sem ClassFile Op Lib Jvm.Stand Jvm.Free Jvm.Free.XT
open Jvm.Lib.Cold (StaticIs)
theorem consq {a : Array Value} {s : State} {c : Jvm.Cond} {L : List Jvm.Cond} (h0 : c.before a s = true) (h : ∀ w ∈ L, w.before a s = true) : ∀ w ∈ c :: L, w.before a s = true := fun w hw => (List.mem_cons.mp hw).elim (fun e => e ▸ h0) (h w)
/-- the bytes of the chars cs, low before high -/
def wideBytes : List Int32 → List Value
  | [] => []
  | c :: cs => .int (lo8 c) :: .int (hi8 c) :: wideBytes cs
theorem wide_lo (d : Value) : ∀ (cs : List Int32) (j : Nat), j < cs.length → (wideBytes cs).getD (2 * j) d = .int (lo8 (cs.getD j 0))
  | [], j, h => absurd h (Nat.not_lt_zero j)
  | c :: cs, 0, _ => rfl
  | c :: cs, j + 1, h => by
    have q := wide_lo d cs j (by simpa using h)
    rw [show 2 * (j + 1) = 2 * j + 1 + 1 from by omega]
    simpa [wideBytes] using q
theorem wide_hi (d : Value) : ∀ (cs : List Int32) (j : Nat), j < cs.length → (wideBytes cs).getD (2 * j + 1) d = .int (hi8 (cs.getD j 0))
  | [], j, h => absurd h (Nat.not_lt_zero j)
  | c :: cs, 0, _ => rfl
  | c :: cs, j + 1, h => by
    have q := wide_hi d cs j (by simpa using h)
    rw [show 2 * (j + 1) + 1 = 2 * j + 1 + 1 + 1 from by omega]
    simpa [wideBytes] using q
theorem low_at (d : Value) (cs : List Int32) (j : Nat) (h : j < cs.length) : (cs.map fun c => Value.int (lo8 c)).getD j d = .int (lo8 (cs.getD j 0)) := by
  simp [List.getD_eq_getElem?_getD, h]
/-- an array of N2 bytes vs codes the chars cs by the coder cd -/
def CodA (cs : List Int32) (cd N2 : Int32) (vs : List Value) : Prop := (cd = 0 ∧ N2 = Int32.ofNat cs.length ∧ vs = (cs.map fun c => Value.int (lo8 c)) ∧ ∀ c ∈ cs, ¬ 255 < c) ∨ (cd = 1 ∧ N2 = Int32.ofNat (2 * cs.length) ∧ vs = wideBytes cs ∧ ∃ c ∈ cs, 255 < c)
theorem CodA.cod {cs : List Int32} {cd N2 : Int32} {vs : List Value} {V : Cell} (h : CodA cs cd N2 vs) (hn : 2 * cs.length < 2 ^ 31) (hs : V.slots.size = N2.toNatClampNeg) (hv : RoadKit.Has V vs (.int 0)) : Cod cd cs.length (fun j => cs.getD j 0) V := by
  rcases h with ⟨rfl, rfl, rfl, h⟩ | ⟨rfl, rfl, rfl, c, hc, hw⟩
  · rw [n32 (by omega)] at hs
    exact Or.inl ⟨rfl, hs, fun j hj => ⟨by rw [hv j (by omega), low_at _ _ _ hj], by
      have e : cs.getD j 0 = cs[j] := by simp [List.getD_eq_getElem?_getD, hj]
      show ¬ 255 < cs.getD j 0
      rw [e]; exact h _ (List.getElem_mem _)⟩⟩
  · rw [n32 (by omega)] at hs
    obtain ⟨j, hj, rfl⟩ := List.getElem_of_mem hc
    exact Or.inr ⟨rfl, hs, fun j hj => ⟨by rw [hv _ (by omega), wide_lo _ _ _ hj], by rw [hv _ (by omega), wide_hi _ _ _ hj]⟩, j, hj, by
      have e : cs.getD j 0 = cs[j] := by simp [List.getD_eq_getElem?_getD, hj]
      show 255 < cs.getD j 0
      rw [e]; exact hw⟩
/-- an object of exactly java/lang/String, its two fields found: as the laws ask it -/
theorem strObj {Z U : State} {a0 : Array Value} {kI : Nat} (wi : (Jvm.Cond.instantiable ST kI).before a0 Z = true) (al : Z.vm.Alike U.vm) {x : Addr} {v0 c0 : Value} (E : RoadKit.Exa Z U.heap x ST) (V : RoadKit.Fld Z U.heap x ST "value" "[B" v0) (C : RoadKit.Fld Z U.heap x ST "coder" "B" c0) :
    ∃ (D : Cell) (fV fC : Field), Blank ST x D U ∧ Found ST "value" "[B" fV U ∧ Found ST "coder" "B" fC U ∧ D.slots[fV.slot]? = some v0 ∧ D.slots[fC.slot]? = some c0 ∧ RoadKit.slotOf Z ST "value" "[B" = fV.slot ∧ RoadKit.slotOf Z ST "coder" "B" = fC.slot := by
  obtain ⟨D, cfV, kV, iV, fV, hD, gV, stV, knV, obV, asV, slV⟩ := V
  obtain ⟨D', cfC, kC, iC, fC, hD', gC, stC, -, -, asC, slC⟩ := C
  cases hD.symm.trans hD'
  obtain ⟨D2, kD, e1, e2, e3, e4, e5⟩ := E
  cases hD.symm.trans e1
  obtain ⟨c2, k2, i1, i2, i3, -⟩ := Cond.instantiable_spec wi
  cases e2.symm.trans i1
  cases e3.symm.trans i2
  obtain ⟨kU, u1, u2⟩ := al.2.2 _ _ e3
  exact ⟨D, fV, fC, ⟨hD, ⟨knV, fun q hq => by rw [hq] at obV; cases obV⟩, by rw [al.findClass]; exact e2, kU, u1, by rw [u2]; exact i3, by rw [u2]; exact e5 i3⟩, ⟨SBG.found_only al ⟨cfV, kV, iV, gV⟩, stV⟩, ⟨SBG.found_only al ⟨cfC, kC, iC, gC⟩, stC⟩, slV, slC, by simp [RoadKit.slotOf, gV], by simp [RoadKit.slotOf, gC]⟩
theorem sta_is {Z U : State} (al : Z.vm.Alike U.vm) {C n d : String} {v : Value} (S : RoadKit.Sta Z U.heap C n d v) : StaticIs U C n d v := by
  obtain ⟨cfS, iS, kS, fS, st, cS, t1, t2, t3, t4, t5, t6, t7⟩ := S
  exact StaticIs.there (s := { Z with heap := U.heap }) ⟨cfS, iS, kS, fS, st, cS, t1, t2, t3, t4, t5, (fun q => by rw [q] at t6; cases t6), t7⟩ al rfl
end StrChars.Road
namespace StrChars
open Jvm Sem ClassFile Op Lib Jvm.Stand Jvm.Free.XT Jvm.Free.ALB Jvm.Free.JM Jvm.Free
open Jvm.Lib.Cold (StaticIs)
/-- what place i of a byte[]'s cell holds -/
def yv (A : Cell) (i : Nat) : Int32 := match A.slots[i]? with | some (.int x) => x | _ => 0
theorem yv_get {a : Addr} {A : Cell} {U : State} (h : XT.Arr .byte a A U) (ht : Typed .byte A) {i : Nat} (hi : i < A.slots.size) : A.slots[i]? = some (.int (yv A i)) := by
  have e := Array.getElem?_eq_getElem hi
  have f := ht i _ e
  unfold yv; rw [e]
  generalize A.slots[i] = v at f
  cases v <;> simp [fits] at f ⊢
/-- the two arrays are equal, place for place -/
def EqC (A B : Cell) : Prop := A.slots.size = B.slots.size ∧ ∀ i, i < A.slots.size → yv A i = yv B i
/-- a boolean that says whether p -/
def Says01 (q : Prop) (r : Option Value) (s u : State) : Prop := ∃ v : Int32, r = some (.int v) ∧ u.heap = s.heap ∧ ((v = 1 ∧ q) ∨ (v = 0 ∧ ¬ q))
theorem Says01.mv {q : Prop} : ∀ r (U U' V V' : State), U'.heap = U.heap → V.vm.Alike V'.vm → V'.heap = V.heap → Says01 q r U V → Says01 q r U' V' :=
  fun r U U' V V' h1 _ h2 ⟨v, a, b, c⟩ => ⟨v, a, by rw [h1, h2]; exact b, c⟩
namespace LEq
def yN : MethodName := ⟨"java/lang/StringLatin1", "equals", "([B[B)Z"⟩
abbrev yB : ByteArray := jdk_43_method_13_code
theorem d0 : decode yB 0 = .ok (.aload_n 0, 1) := by decide +kernel
theorem d1 : decode yB 1 = .ok (.arraylength, 1) := by decide +kernel
theorem d2 : decode yB 2 = .ok (.aload_n 1, 1) := by decide +kernel
theorem d3 : decode yB 3 = .ok (.arraylength, 1) := by decide +kernel
theorem d4 : decode yB 4 = .ok (.if_icmp (.ne) 30, 3) := by decide +kernel
theorem d7 : decode yB 7 = .ok (.iconst 0, 1) := by decide +kernel
theorem d8 : decode yB 8 = .ok (.istore_n 2, 1) := by decide +kernel
theorem d9 : decode yB 9 = .ok (.iload_n 2, 1) := by decide +kernel
theorem d10 : decode yB 10 = .ok (.aload_n 0, 1) := by decide +kernel
theorem d11 : decode yB 11 = .ok (.arraylength, 1) := by decide +kernel
theorem d12 : decode yB 12 = .ok (.if_icmp (.ge) 20, 3) := by decide +kernel
theorem d15 : decode yB 15 = .ok (.aload_n 0, 1) := by decide +kernel
theorem d16 : decode yB 16 = .ok (.iload_n 2, 1) := by decide +kernel
theorem d17 : decode yB 17 = .ok (.baload, 1) := by decide +kernel
theorem d18 : decode yB 18 = .ok (.aload_n 1, 1) := by decide +kernel
theorem d19 : decode yB 19 = .ok (.iload_n 2, 1) := by decide +kernel
theorem d20 : decode yB 20 = .ok (.baload, 1) := by decide +kernel
theorem d21 : decode yB 21 = .ok (.if_icmp (.eq) 5, 3) := by decide +kernel
theorem d24 : decode yB 24 = .ok (.iconst 0, 1) := by decide +kernel
theorem d25 : decode yB 25 = .ok (.ireturn, 1) := by decide +kernel
theorem d26 : decode yB 26 = .ok (.iinc 2 1, 3) := by decide +kernel
theorem d29 : decode yB 29 = .ok (.goto (-20), 3) := by decide +kernel
theorem d32 : decode yB 32 = .ok (.iconst 1, 1) := by decide +kernel
theorem d33 : decode yB 33 = .ok (.ireturn, 1) := by decide +kernel
theorem d34 : decode yB 34 = .ok (.iconst 0, 1) := by decide +kernel
theorem d35 : decode yB 35 = .ok (.ireturn, 1) := by decide +kernel
def site : List Cond := []
def tab : Cond := tabOf yN yB 3 (some .boolean) site
def P (a : Addr) (A : Cell) (b : Addr) (B : Cell) (args : Array Value) (s : State) : Prop := args = #[.ref a, .ref b] ∧ XT.Arr .byte a A s ∧ Typed .byte A ∧ XT.Arr .byte b B s ∧ Typed .byte B
/-- whether two byte[] are equal, place for place -/
theorem law (l : Launch) (a : Addr) (A : Cell) (b : Addr) (B : Cell) : Law l yN 2 2 0 0 yB 3 (some .boolean) site (P a A b B) (Says01 (EqC A B)) [] 0 0 := by
  refine Law.of_walk (plainFor_of_name (by decide +kernel)) (by decide +kernel) (by decide +kernel) (by decide) (fun _ _ h => by rw [h.1]; rfl) (fun _ U U' hal hh h => ⟨h.1, h.2.1.mv hal hh, h.2.2.1, h.2.2.2.1.mv hal hh, h.2.2.2.2⟩) (fun r U U' V V' h1 hal h2 h => Says01.mv r U U' V V' h1 hal h2 h) ?_
  intro p e s m args below meth c s₁ X0 hexec hbytes hml hret hlk hnm hown hh0 W hP
  obtain ⟨rfl, hA, tA, hB, tB⟩ := hP
  have a31 := hA.2.2.2
  have b31 := hB.2.2.2
  have hA0 := hA.mv X0.warmed.alike hh0
  have hB0 := hB.mv X0.warmed.alike hh0
  have c1 : Steps p.tables e below (s₁.setTop (entryFrame m #[.ref a, .ref b] 3)) (s₁.setTop (mkF m 0 #[.val (.ref a), .val (.ref b), .unset] [])) := entry rfl
  have c2 : Steps p.tables e below (s₁.setTop (entryFrame m #[.ref a, .ref b] 3)) (s₁.setTop (mkF m 4 #[.val (.ref a), .val (.ref b), .unset] [.int (Int32.ofNat B.slots.size), .int (Int32.ofNat A.slots.size)])) := c1.trans (by
    refine XS.aloadN X0.here hexec rfl (hb hbytes d0) rfl rfl ?_
    refine X0.alen hexec hA0 rfl rfl (hb hbytes d1) ?_
    refine XS.aloadN X0.here hexec rfl (hb hbytes d2) rfl rfl ?_
    refine X0.alen hexec hB0 rfl rfl (hb hbytes d3) ?_
    exact Steps.refl _)
  by_cases hs : A.slots.size = B.slots.size
  · have c3 : Steps p.tables e below (s₁.setTop (entryFrame m #[.ref a, .ref b] 3)) (s₁.setTop (mkF m 9 #[.val (.ref a), .val (.ref b), .val (.int 0)] [])) := c2.trans (by
      refine XS.icmpNo X0.here hexec rfl (hb hbytes d4) rfl (ii_ne_f (by rw [hs])) ?_
      refine iconstV X0.here hexec rfl 0 (hb hbytes d7) (by decide) ?_
      refine XS.istoreN X0.here hexec rfl (hb hbytes d8) rfl rfl ?_
      exact Steps.refl _)
    have loop : ∀ (r i : Nat), i + r = A.slots.size → (∀ j, j < i → yv A j = yv B j) → Steps p.tables e below (s₁.setTop (entryFrame m #[.ref a, .ref b] 3)) (s₁.setTop (mkF m 9 #[.val (.ref a), .val (.ref b), .val (.int (Int32.ofNat i))] [])) → ∃ (pc : Nat) (Ls : Array Slot) (v : Int32), (pc = 25 ∨ pc = 33) ∧ ((v = 1 ∧ EqC A B) ∨ (v = 0 ∧ ¬ EqC A B)) ∧ Steps p.tables e below (s₁.setTop (entryFrame m #[.ref a, .ref b] 3)) (s₁.setTop (mkF m pc Ls [.int v])) := by
      intro r
      induction r with
      | zero =>
        intro i hi he cl
        exact ⟨33, _, 1, Or.inr rfl, Or.inl ⟨rfl, hs, fun j hj => he j (by omega)⟩, cl.trans (by
          refine XS.iloadN X0.here hexec rfl (hb hbytes d9) rfl ?_
          refine XS.aloadN X0.here hexec rfl (hb hbytes d10) rfl rfl ?_
          refine X0.alen hexec hA0 rfl rfl (hb hbytes d11) ?_
          refine XS.icmpYes X0.here hexec rfl (pc0 := 12) rfl (hb hbytes d12) rfl (ii_ge_t (nlt32 (by omega) (by omega))) (by decide) rfl ?_
          refine iconstV X0.here hexec rfl 1 (hb hbytes d32) (by decide) ?_
          exact Steps.refl _)⟩
      | succ r ih =>
        intro i hi he cl
        have c4 : Steps p.tables e below (s₁.setTop (entryFrame m #[.ref a, .ref b] 3)) (s₁.setTop (mkF m 21 #[.val (.ref a), .val (.ref b), .val (.int (Int32.ofNat i))] [.int (yv B i), .int (yv A i)])) := cl.trans (by
          refine XS.iloadN X0.here hexec rfl (hb hbytes d9) rfl ?_
          refine XS.aloadN X0.here hexec rfl (hb hbytes d10) rfl rfl ?_
          refine X0.alen hexec hA0 rfl rfl (hb hbytes d11) ?_
          refine XS.icmpNo X0.here hexec rfl (hb hbytes d12) rfl (ii_ge_f (lt32 (by omega) (by omega))) ?_
          refine XS.aloadN X0.here hexec rfl (hb hbytes d15) rfl rfl ?_
          refine XS.iloadN X0.here hexec rfl (hb hbytes d16) rfl ?_
          refine X0.aget hexec hA0 rfl (yv_get hA tA (i := i) (by omega)) rfl rfl (hb hbytes d17) ?_
          refine XS.aloadN X0.here hexec rfl (hb hbytes d18) rfl rfl ?_
          refine XS.iloadN X0.here hexec rfl (hb hbytes d19) rfl ?_
          refine X0.aget hexec hB0 rfl (yv_get hB tB (i := i) (by omega)) rfl rfl (hb hbytes d20) ?_
          exact Steps.refl _)
        by_cases hv : yv A i = yv B i
        · have c5 : Steps p.tables e below (s₁.setTop (entryFrame m #[.ref a, .ref b] 3)) (s₁.setTop (mkF m 9 #[.val (.ref a), .val (.ref b), .val (.int (Int32.ofNat i + 1))] [])) := c4.trans (by
            refine XS.icmpYes X0.here hexec rfl (pc0 := 21) rfl (hb hbytes d21) rfl (ii_eq_t hv) (by decide) rfl ?_
            refine iincV X0.here hexec rfl 1 (hb hbytes d26) (by decide) rfl rfl ?_
            refine XS.goto X0.here hexec rfl (pc0 := 29) rfl (hb hbytes d29) (by decide) rfl ?_
            exact Steps.refl _)
          rw [succ32] at c5
          exact ih (i + 1) (by omega) (fun j hj => by
            by_cases e : j = i
            · rw [e]; exact hv
            · exact he j (by omega)) c5
        · exact ⟨25, _, 0, Or.inl rfl, Or.inr ⟨rfl, fun q => hv (q.2 i (by omega))⟩, c4.trans (by
            refine XS.icmpNo X0.here hexec rfl (hb hbytes d21) rfl (ii_eq_f hv) ?_
            refine iconstV X0.here hexec rfl 0 (hb hbytes d24) (by decide) ?_
            exact Steps.refl _)⟩
    obtain ⟨pc, Ls, v, hpc, hv, cz⟩ := loop A.slots.size 0 (by omega) (fun j hj => absurd hj (Nat.not_lt_zero j)) c3
    have nv : narrow .boolean (.int v) = .int v := by rcases hv with ⟨rfl, -⟩ | ⟨rfl, -⟩ <;> rfl
    rcases hpc with rfl | rfl
    · exact ⟨s₁, some (.int v), _, _, _, X0, rfl, rfl, rfl, (fun h => by cases h), ⟨v, rfl, hh0, hv⟩, fun fs hl => cz.trans (X0.ireturnOut hexec hret nv (Or.inr (Or.inl rfl)) (hb hbytes d25) hl)⟩
    · exact ⟨s₁, some (.int v), _, _, _, X0, rfl, rfl, rfl, (fun h => by cases h), ⟨v, rfl, hh0, hv⟩, fun fs hl => cz.trans (X0.ireturnOut hexec hret nv (Or.inr (Or.inl rfl)) (hb hbytes d33) hl)⟩
  · have c3 : Steps p.tables e below (s₁.setTop (entryFrame m #[.ref a, .ref b] 3)) (s₁.setTop (mkF m 35 #[.val (.ref a), .val (.ref b), .unset] [.int 0])) := c2.trans (by
      refine XS.icmpYes X0.here hexec rfl (pc0 := 4) rfl (hb hbytes d4) rfl (ii_ne_t (ne32 a31 b31 hs)) (by decide) rfl ?_
      refine iconstV X0.here hexec rfl 0 (hb hbytes d34) (by decide) ?_
      exact Steps.refl _)
    exact ⟨s₁, some (.int 0), _, _, _, X0, rfl, rfl, rfl, (fun h => by cases h), ⟨0, rfl, hh0, Or.inr ⟨rfl, fun q => hs q.1⟩⟩, fun fs hl => c3.trans (X0.ireturnOut hexec hret rfl (Or.inr (Or.inl rfl)) (hb hbytes d35) hl)⟩
end LEq
theorem Cod.ty {cd : Int32} {n : Nat} {f : Nat → Int32} {V : Cell} (h : Cod cd n f V) : Typed .byte V := fun i v hv => by
  have hi : i < V.slots.size := (Array.getElem?_eq_some_iff.mp hv).1
  rcases h with ⟨-, k1, k2⟩ | ⟨-, k1, k2, -⟩
  · rw [(k2 i (by omega)).1] at hv; cases hv; exact fits_lo8 _
  · rcases Nat.mod_two_eq_zero_or_one i with e | e
    · obtain ⟨j, rfl⟩ : ∃ j, i = 2 * j := ⟨i / 2, by omega⟩
      rw [(k2 j (by omega)).1] at hv; cases hv; exact fits_lo8 _
    · obtain ⟨j, rfl⟩ : ∃ j, i = 2 * j + 1 := ⟨i / 2, by omega⟩
      rw [(k2 j (by omega)).2] at hv; cases hv; exact fits_lo8 _
/-- the same text -/
def SameT (n : Nat) (f : Nat → Int32) (k : Nat) (g : Nat → Int32) : Prop := n = k ∧ ∀ j, j < n → f j = g j
theorem lo8_inj {x y : Int32} (h0 : ¬ x < 0) (h1 : ¬ 255 < x) (k0 : ¬ y < 0) (k1 : ¬ 255 < y) (h : lo8 x = lo8 y) : x = y := by
  rw [← lo8_mask h0 h1, ← lo8_mask k0 k1, h]
/-- arrays coded by one coder are equal just where the texts are -/
theorem Cod.eqv {cd : Int32} {n k : Nat} {f g : Nat → Int32} {V V' : Cell} (h : Cod cd n f V) (h' : Cod cd k g V') (hf : ∀ j, j < n → ¬ f j < 0 ∧ ¬ 65535 < f j) (hg : ∀ j, j < k → ¬ g j < 0 ∧ ¬ 65535 < g j) : EqC V V' ↔ SameT n f k g := by
  have yvv : ∀ {W : Cell} {i : Nat} {x : Int32}, W.slots[i]? = some (.int x) → yv W i = x := fun q => by unfold yv; rw [q]
  rcases h with ⟨rfl, k1, k2⟩ | ⟨rfl, k1, k2, -⟩
  · rcases h' with ⟨-, m1, m2⟩ | ⟨e, -⟩
    · constructor
      · rintro ⟨e1, e2⟩
        refine ⟨by omega, fun j hj => ?_⟩
        have q := e2 j (by omega)
        rw [yvv (k2 j hj).1, yvv (m2 j (by omega)).1] at q
        exact lo8_inj (hf j hj).1 (k2 j hj).2 (hg j (by omega)).1 (m2 j (by omega)).2 q
      · rintro ⟨rfl, e2⟩
        refine ⟨by omega, fun j hj => ?_⟩
        rw [yvv (k2 j (by omega)).1, yvv (m2 j (by omega)).1, e2 j (by omega)]
    · exact absurd e (by decide)
  · rcases h' with ⟨e, -⟩ | ⟨-, m1, m2, -⟩
    · exact absurd e (by decide)
    · constructor
      · rintro ⟨e1, e2⟩
        refine ⟨by omega, fun j hj => ?_⟩
        have q1 := e2 (2 * j) (by omega)
        have q2 := e2 (2 * j + 1) (by omega)
        rw [yvv (k2 j hj).1, yvv (m2 j (by omega)).1] at q1
        rw [yvv (k2 j hj).2, yvv (m2 j (by omega)).2] at q2
        rw [← pair_says (hf j hj).1 (hf j hj).2, ← pair_says (hg j (by omega)).1 (hg j (by omega)).2, q1, q2]
      · rintro ⟨rfl, e2⟩
        refine ⟨by omega, fun i hi => ?_⟩
        rcases Nat.mod_two_eq_zero_or_one i with e | e
        · obtain ⟨j, rfl⟩ : ∃ j, i = 2 * j := ⟨i / 2, by omega⟩
          rw [yvv (k2 j (by omega)).1, yvv (m2 j (by omega)).1, e2 j (by omega)]
        · obtain ⟨j, rfl⟩ : ∃ j, i = 2 * j + 1 := ⟨i / 2, by omega⟩
          rw [yvv (k2 j (by omega)).2, yvv (m2 j (by omega)).2, e2 j (by omega)]
/-- two codings differ: so do the texts -/
theorem Cod.dif {cd cd' : Int32} {n k : Nat} {f g : Nat → Int32} {V V' : Cell} (h : Cod cd n f V) (h' : Cod cd' k g V') (hne : ¬ cd = cd') : ¬ SameT n f k g := by
  rintro ⟨rfl, e⟩
  rcases h with ⟨rfl, -, k2⟩ | ⟨rfl, -, -, j, hj, hw⟩
  · rcases h' with ⟨rfl, -⟩ | ⟨-, -, -, j, hj, hw⟩
    · exact hne rfl
    · exact (k2 j hj).2 (by rw [e j hj]; exact hw)
  · rcases h' with ⟨-, -, m2⟩ | ⟨rfl, -⟩
    · exact (m2 j hj).2 (by rw [← e j hj]; exact hw)
    · exact hne rfl
/-- an object of exactly C is an instance of C -/
theorem cinst {p : Program} {l : Launch} {e : Env} {R : Room} {s : State} {m : MethodId} {args : Array Value} {below : List Frame} {meth : Method} {c : Code} {T : State} {locs : List Loc} {cells slots : Nat} (X : Stand p l e R s m args below meth c T locs cells slots) (hexec : p.tables.exec = Jvm.exec) {own C : String} {index : Nat} (hown : s.vm.findClass own = some m.cls) (hlink : (Cond.classLink own index C).before args s = true) {a : Addr} (hE : Exact C a T)
    {g : JFrame} (hg : g.method = m) {rest : List Value} (hstack : g.stack = .ref a :: rest) (hdg : decode c.code g.pc = .ok (.instanceof index, 3)) :
    ∃ T', Stand p l e R s m args below meth c T' locs cells slots ∧ T'.heap = T.heap ∧ ∀ target, Steps p.tables e below (T'.setTop { g with pc := g.pc + 3, stack := .int 1 :: rest }) target → Steps p.tables e below (T.setTop g) target := by
  obtain ⟨cB, h1, D, h2, h3, h4⟩ := hE
  have h1' : s.vm.findClass C = some cB := by rw [← X.warmed.alike.findClass]; exact h1
  obtain ⟨vm', X', st⟩ := X.instanceofYes hexec hown hlink h2 h4 h1' (by rw [h3]; exact Jvm.Free.SB.assignable_self _ _) hg hstack hdg
  exact ⟨_, X', rfl, st⟩
theorem cself {p : Program} {l : Launch} {e : Env} {R : Room} {s : State} {m : MethodId} {args : Array Value} {below : List Frame} {meth : Method} {c : Code} {T : State} {locs : List Loc} {cells slots : Nat} (X : Stand p l e R s m args below meth c T locs cells slots) (hexec : p.tables.exec = Jvm.exec) {own C : String} {index : Nat} (hown : s.vm.findClass own = some m.cls) (hlink : (Cond.classLink own index C).before args s = true) {a : Addr} (hE : Exact C a T)
    {g : JFrame} (hg : g.method = m) {rest : List Value} (hstack : g.stack = .ref a :: rest) (hdg : decode c.code g.pc = .ok (.checkcast index, 3)) :
    ∃ T', Stand p l e R s m args below meth c T' locs cells slots ∧ T'.heap = T.heap ∧ ∀ target, Steps p.tables e below (T'.setTop { g with pc := g.pc + 3, stack := .ref a :: rest }) target → Steps p.tables e below (T.setTop g) target := by
  obtain ⟨cB, h1, D, h2, h3, h4⟩ := hE
  have h1' : s.vm.findClass C = some cB := by rw [← X.warmed.alike.findClass]; exact h1
  obtain ⟨vm', X', st⟩ := X.checkcastYes hexec hown hlink h2 h4 h1' (by rw [h3]; exact Jvm.Free.SB.assignable_self _ _) hg hstack hdg
  exact ⟨_, X', rfl, fun t h => st t (by rw [← hstack] at h; exact h)⟩
namespace SEq
def yN : MethodName := ⟨"java/lang/String", "equals", "(Ljava/lang/Object;)Z"⟩
abbrev yB : ByteArray := jdk_42_method_66_code
theorem d0 : decode yB 0 = .ok (.aload_n 0, 1) := by decide +kernel
theorem d1 : decode yB 1 = .ok (.aload_n 1, 1) := by decide +kernel
theorem d2 : decode yB 2 = .ok (.if_acmp (.ne) 5, 3) := by decide +kernel
theorem d5 : decode yB 5 = .ok (.iconst 1, 1) := by decide +kernel
theorem d6 : decode yB 6 = .ok (.ireturn, 1) := by decide +kernel
theorem d7 : decode yB 7 = .ok (.aload_n 1, 1) := by decide +kernel
theorem d8 : decode yB 8 = .ok (.instanceof 10, 3) := by decide +kernel
theorem d11 : decode yB 11 = .ok (.ifCond (.eq) 43, 3) := by decide +kernel
theorem d14 : decode yB 14 = .ok (.aload_n 1, 1) := by decide +kernel
theorem d15 : decode yB 15 = .ok (.checkcast 10, 3) := by decide +kernel
theorem d18 : decode yB 18 = .ok (.astore_n 2, 1) := by decide +kernel
theorem d19 : decode yB 19 = .ok (.getstatic 38, 3) := by decide +kernel
theorem d22 : decode yB 22 = .ok (.ifCond (.eq) 14, 3) := by decide +kernel
theorem d25 : decode yB 25 = .ok (.aload_n 0, 1) := by decide +kernel
theorem d26 : decode yB 26 = .ok (.getfield 15, 3) := by decide +kernel
theorem d29 : decode yB 29 = .ok (.aload_n 2, 1) := by decide +kernel
theorem d30 : decode yB 30 = .ok (.getfield 15, 3) := by decide +kernel
theorem d33 : decode yB 33 = .ok (.if_icmp (.ne) 21, 3) := by decide +kernel
theorem d36 : decode yB 36 = .ok (.aload_n 0, 1) := by decide +kernel
theorem d37 : decode yB 37 = .ok (.getfield 9, 3) := by decide +kernel
theorem d40 : decode yB 40 = .ok (.aload_n 2, 1) := by decide +kernel
theorem d41 : decode yB 41 = .ok (.getfield 9, 3) := by decide +kernel
theorem d44 : decode yB 44 = .ok (.invokestatic 541, 3) := by decide +kernel
theorem d47 : decode yB 47 = .ok (.ifCond (.eq) 7, 3) := by decide +kernel
theorem d50 : decode yB 50 = .ok (.iconst 1, 1) := by decide +kernel
theorem d51 : decode yB 51 = .ok (.goto 4, 3) := by decide +kernel
theorem d54 : decode yB 54 = .ok (.iconst 0, 1) := by decide +kernel
theorem d55 : decode yB 55 = .ok (.ireturn, 1) := by decide +kernel
def site : List Cond := [.classLink "java/lang/String" 10 "java/lang/String", .fieldLink "java/lang/String" 38 "java/lang/String" "COMPACT_STRINGS" "Z", .fieldLink "java/lang/String" 15 "java/lang/String" "coder" "B", .fieldLink "java/lang/String" 9 "java/lang/String" "value" "[B", LEq.tab] ++ staticW "java/lang/String" 541 LEq.yN
def tab : Cond := tabOf yN yB 3 (some .boolean) site
def P (x t : Addr) (V : Cell) (cd : Int32) (n : Nat) (f : Nat → Int32) (y t' : Addr) (V' : Cell) (cd' : Int32) (k : Nat) (g : Nat → Int32) (z : Int32) (args : Array Value) (s : State) : Prop := args = #[.ref x, .ref y] ∧ Txt x t V cd n f s ∧ Txt y t' V' cd' k g s ∧ StaticIs s "java/lang/String" "COMPACT_STRINGS" "Z" (.int z) ∧ ¬ z = 0
/-- equals(Object) of two Strings: whether the texts are the same -/
theorem law (l : Launch) (x t : Addr) (V : Cell) (cd : Int32) (n : Nat) (f : Nat → Int32) (y t' : Addr) (V' : Cell) (cd' : Int32) (k : Nat) (g : Nat → Int32) (z : Int32) : Law l yN 2 1 1 14 yB 3 (some .boolean) site (P x t V cd n f y t' V' cd' k g z) (Says01 (SameT n f k g)) [] 0 0 := by
  refine Law.of_walk (plainFor_of_name (by decide +kernel)) (by decide +kernel) (by decide +kernel) (by decide) (fun _ _ h => by rw [h.1]; rfl) (fun _ U U' hal hh h => ⟨h.1, h.2.1.mv hal hh, h.2.2.1.mv hal hh, h.2.2.2.1.there hal hh, h.2.2.2.2⟩) (fun r U U' V V' h1 hal h2 h => Says01.mv r U U' V V' h1 hal h2 h) ?_
  intro p e s m args below meth c s₁ X0 hexec hbytes hml hret hlk hnm hown hh0 W hP
  obtain ⟨rfl, hx, hy, s1, hz⟩ := hP
  have c1 : Steps p.tables e below (s₁.setTop (entryFrame m #[.ref x, .ref y] 3)) (s₁.setTop (mkF m 2 #[.val (.ref x), .val (.ref y), .unset] [.ref y, .ref x])) := Steps.trans (entry rfl) (by
    show Steps p.tables e below (s₁.setTop (mkF m 0 #[.val (.ref x), .val (.ref y), .unset] [])) _
    refine XS.aloadN X0.here hexec rfl (hb hbytes d0) rfl rfl ?_
    refine XS.aloadN X0.here hexec rfl (hb hbytes d1) rfl rfl ?_
    exact Steps.refl _)
  by_cases hxy : x = y
  · have c2 : Steps p.tables e below (s₁.setTop (entryFrame m #[.ref x, .ref y] 3)) (s₁.setTop (mkF m 6 #[.val (.ref x), .val (.ref y), .unset] [.int 1])) := c1.trans (by
      refine acmpNo X0.here hexec rfl (hb hbytes d2) rfl rfl rfl (by simp [acmp, hxy]) ?_
      refine iconstV X0.here hexec rfl 1 (hb hbytes d5) (by decide) ?_
      exact Steps.refl _)
    subst hxy
    have ec : cd = cd' := by
      obtain ⟨D, fd, a1, a2, a3⟩ := hx.2.2.1
      obtain ⟨D', fd', b1, b2, b3⟩ := hy.2.2.1
      cases a1.symm.trans b1
      obtain ⟨q1, q2, q3, q4⟩ := a2.1
      obtain ⟨r1, r2, r3, r4⟩ := b2.1
      cases q4.symm.trans r4
      cases a3.symm.trans b3; rfl
    have et : t = t' := by
      obtain ⟨D, fd, a1, a2, a3⟩ := hx.2.1
      obtain ⟨D', fd', b1, b2, b3⟩ := hy.2.1
      cases a1.symm.trans b1
      obtain ⟨q1, q2, q3, q4⟩ := a2.1
      obtain ⟨r1, r2, r3, r4⟩ := b2.1
      cases q4.symm.trans r4
      cases a3.symm.trans b3; rfl
    subst ec et
    have ev : V = V' := by cases hx.2.2.2.1.1.symm.trans hy.2.2.2.1.1; rfl
    subst ev
    have hs : SameT n f k g := (Cod.eqv hx.2.2.2.2.1 hy.2.2.2.2.1 hx.2.2.2.2.2 hy.2.2.2.2.2).mp ⟨rfl, fun _ _ => rfl⟩
    exact ⟨s₁, some (.int 1), _, _, _, X0, rfl, rfl, rfl, (fun h => by cases h), ⟨1, rfl, hh0, Or.inl ⟨rfl, hs⟩⟩, fun fs hl => c2.trans (X0.ireturnOut hexec hret rfl (Or.inr (Or.inl rfl)) (hb hbytes d6) hl)⟩
  · have c2 : Steps p.tables e below (s₁.setTop (entryFrame m #[.ref x, .ref y] 3)) (s₁.setTop (mkF m 8 #[.val (.ref x), .val (.ref y), .unset] [.ref y])) := c1.trans (by
      refine acmpYes X0.here hexec rfl (pc0 := 2) rfl (hb hbytes d2) rfl rfl rfl (by simp [acmp, hxy]) (by decide) rfl ?_
      refine XS.aloadN X0.here hexec rfl (hb hbytes d7) rfl rfl ?_
      exact Steps.refl _)
    obtain ⟨T3, X3, q3, st3⟩ := cinst X0 hexec hown (wk W (.classLink "java/lang/String" 10 "java/lang/String")) (hy.mv X0.warmed.alike hh0).1 (g := (mkF m 8 #[.val (.ref x), .val (.ref y), .unset] [.ref y])) rfl (rest := []) rfl (hb hbytes d8)
    have hh3 := q3.trans hh0
    have c4 : Steps p.tables e below (s₁.setTop (entryFrame m #[.ref x, .ref y] 3)) (T3.setTop (mkF m 15 #[.val (.ref x), .val (.ref y), .unset] [.ref y])) := (c2.trans (st3 _ (Steps.refl _))).trans (by
      refine XS.ifNo X3.here hexec rfl (hb hbytes d11) rfl (i0_eq_f (by decide)) ?_
      refine XS.aloadN X3.here hexec rfl (hb hbytes d14) rfl rfl ?_
      exact Steps.refl _)
    obtain ⟨T5, X5, q5, st5⟩ := cself X3 hexec hown (wk W (.classLink "java/lang/String" 10 "java/lang/String")) (hy.mv X3.warmed.alike hh3).1 (g := (mkF m 15 #[.val (.ref x), .val (.ref y), .unset] [.ref y])) rfl (rest := []) rfl (hb hbytes d15)
    have hh5 := q5.trans hh3
    have c6 : Steps p.tables e below (s₁.setTop (entryFrame m #[.ref x, .ref y] 3)) (T5.setTop (mkF m 19 #[.val (.ref x), .val (.ref y), .val (.ref y)] [])) := (c4.trans (st5 _ (Steps.refl _))).trans (by
      refine XS.astoreN X5.here hexec rfl (hb hbytes d18) rfl rfl rfl ?_
      exact Steps.refl _)
    obtain ⟨T7, X7, q7, st7⟩ := X5.sget hexec hown (wk W (.fieldLink "java/lang/String" 38 "java/lang/String" "COMPACT_STRINGS" "Z")) s1 (fun _ _ h => by rw [hh5]; exact h) (g := (mkF m 19 #[.val (.ref x), .val (.ref y), .val (.ref y)] [])) rfl (hb hbytes d19)
    have hh7 := q7.trans hh5
    have c8 : Steps p.tables e below (s₁.setTop (entryFrame m #[.ref x, .ref y] 3)) (T7.setTop (mkF m 26 #[.val (.ref x), .val (.ref y), .val (.ref y)] [.ref x])) := (c6.trans (st7 _ (Steps.refl _))).trans (by
      refine XS.ifNo X7.here hexec rfl (hb hbytes d22) rfl (i0_eq_f hz) ?_
      refine XS.aloadN X7.here hexec rfl (hb hbytes d25) rfl rfl ?_
      exact Steps.refl _)
    obtain ⟨T9, X9, q9, st9⟩ := X7.hget hexec hown (wk W (.fieldLink "java/lang/String" 15 "java/lang/String" "coder" "B")) (hx.mv X7.warmed.alike hh7).2.2.1 (g := (mkF m 26 #[.val (.ref x), .val (.ref y), .val (.ref y)] [.ref x])) rfl (rest := []) rfl (hb hbytes d26)
    have hh9 := q9.trans hh7
    have c10 : Steps p.tables e below (s₁.setTop (entryFrame m #[.ref x, .ref y] 3)) (T9.setTop (mkF m 30 #[.val (.ref x), .val (.ref y), .val (.ref y)] [.ref y, .int cd])) := (c8.trans (st9 _ (Steps.refl _))).trans (by
      refine XS.aloadN X9.here hexec rfl (hb hbytes d29) rfl rfl ?_
      exact Steps.refl _)
    obtain ⟨T11, X11, q11, st11⟩ := X9.hget hexec hown (wk W (.fieldLink "java/lang/String" 15 "java/lang/String" "coder" "B")) (hy.mv X9.warmed.alike hh9).2.2.1 (g := (mkF m 30 #[.val (.ref x), .val (.ref y), .val (.ref y)] [.ref y, .int cd])) rfl (rest := [.int cd]) rfl (hb hbytes d30)
    have hh11 := q11.trans hh9
    have c12 : Steps p.tables e below (s₁.setTop (entryFrame m #[.ref x, .ref y] 3)) (T11.setTop (mkF m 33 #[.val (.ref x), .val (.ref y), .val (.ref y)] [.int cd', .int cd])) := c10.trans (st11 _ (Steps.refl _))
    by_cases hcd : cd = cd'
    · subst hcd
      have c13 : Steps p.tables e below (s₁.setTop (entryFrame m #[.ref x, .ref y] 3)) (T11.setTop (mkF m 37 #[.val (.ref x), .val (.ref y), .val (.ref y)] [.ref x])) := c12.trans (by
        refine XS.icmpNo X11.here hexec rfl (hb hbytes d33) rfl (ii_ne_f rfl) ?_
        refine XS.aloadN X11.here hexec rfl (hb hbytes d36) rfl rfl ?_
        exact Steps.refl _)
      obtain ⟨T14, X14, q14, st14⟩ := X11.hget hexec hown (wk W (.fieldLink "java/lang/String" 9 "java/lang/String" "value" "[B")) (hx.mv X11.warmed.alike hh11).2.1 (g := (mkF m 37 #[.val (.ref x), .val (.ref y), .val (.ref y)] [.ref x])) rfl (rest := []) rfl (hb hbytes d37)
      have hh14 := q14.trans hh11
      have c15 : Steps p.tables e below (s₁.setTop (entryFrame m #[.ref x, .ref y] 3)) (T14.setTop (mkF m 41 #[.val (.ref x), .val (.ref y), .val (.ref y)] [.ref y, .ref t])) := (c13.trans (st14 _ (Steps.refl _))).trans (by
        refine XS.aloadN X14.here hexec rfl (hb hbytes d40) rfl rfl ?_
        exact Steps.refl _)
      obtain ⟨T16, X16, q16, st16⟩ := X14.hget hexec hown (wk W (.fieldLink "java/lang/String" 9 "java/lang/String" "value" "[B")) (hy.mv X14.warmed.alike hh14).2.1 (g := (mkF m 41 #[.val (.ref x), .val (.ref y), .val (.ref y)] [.ref y, .ref t])) rfl (rest := [.ref t]) rfl (hb hbytes d41)
      have hh16 := q16.trans hh14
      have c17 : Steps p.tables e below (s₁.setTop (entryFrame m #[.ref x, .ref y] 3)) (T16.setTop (mkF m 44 #[.val (.ref x), .val (.ref y), .val (.ref y)] [.ref t', .ref t])) := c15.trans (st16 _ (Steps.refl _))
      obtain ⟨v18, T18, X18, E18, g18⟩ := X16.callS hexec (LEq.law l t V t' V') hown (wks W (staticW "java/lang/String" 541 LEq.yN)) (wk W LEq.tab) (W := 0) (Nat.le_of_ble_eq_true rfl) (Nat.le_of_ble_eq_true rfl) (Nat.le_refl _) (Nat.le_refl _) (g := (mkF m 44 #[.val (.ref x), .val (.ref y), .val (.ref y)] [.ref t', .ref t])) rfl (by rw [hml]; rfl) c17 (argsL := [.ref t, .ref t']) (rest := []) rfl rfl (by show 2 * 0 + 0 ≤ _; decide) (hb hbytes d44) (⟨rfl, hx.2.2.2.1.mv X16.warmed.alike hh16, hx.2.2.2.2.1.ty, hy.2.2.2.1.mv X16.warmed.alike hh16, hy.2.2.2.2.1.ty⟩)
      obtain ⟨v, rfl, q18, hv⟩ := E18
      have iff := Cod.eqv hx.2.2.2.2.1 hy.2.2.2.2.1 hx.2.2.2.2.2 hy.2.2.2.2.2
      rcases hv with ⟨rfl, he⟩ | ⟨rfl, he⟩
      · have c19 : Steps p.tables e below (s₁.setTop (entryFrame m #[.ref x, .ref y] 3)) (T18.setTop (mkF m 55 #[.val (.ref x), .val (.ref y), .val (.ref y)] [.int 1])) := Steps.trans g18 (by
          refine XS.ifNo X18.here hexec rfl (hb hbytes d47) rfl (i0_eq_f (by decide)) ?_
          refine iconstV X18.here hexec rfl 1 (hb hbytes d50) (by decide) ?_
          refine XS.goto X18.here hexec rfl (pc0 := 51) rfl (hb hbytes d51) (by decide) rfl ?_
          exact Steps.refl _)
        exact ⟨T18, some (.int 1), _, _, _, X18, rfl, rfl, rfl, (fun h => by cases h), ⟨1, rfl, q18.trans hh16, Or.inl ⟨rfl, iff.mp he⟩⟩, fun fs hl => c19.trans (X18.ireturnOut hexec hret rfl (Or.inr (Or.inl rfl)) (hb hbytes d55) hl)⟩
      · have c19 : Steps p.tables e below (s₁.setTop (entryFrame m #[.ref x, .ref y] 3)) (T18.setTop (mkF m 55 #[.val (.ref x), .val (.ref y), .val (.ref y)] [.int 0])) := Steps.trans g18 (by
          refine XS.ifYes X18.here hexec rfl (pc0 := 47) rfl (hb hbytes d47) rfl (i0_eq_t rfl) (by decide) rfl ?_
          refine iconstV X18.here hexec rfl 0 (hb hbytes d54) (by decide) ?_
          exact Steps.refl _)
        exact ⟨T18, some (.int 0), _, _, _, X18, rfl, rfl, rfl, (fun h => by cases h), ⟨0, rfl, q18.trans hh16, Or.inr ⟨rfl, fun q => he (iff.mpr q)⟩⟩, fun fs hl => c19.trans (X18.ireturnOut hexec hret rfl (Or.inr (Or.inl rfl)) (hb hbytes d55) hl)⟩
    · have c13 : Steps p.tables e below (s₁.setTop (entryFrame m #[.ref x, .ref y] 3)) (T11.setTop (mkF m 55 #[.val (.ref x), .val (.ref y), .val (.ref y)] [.int 0])) := c12.trans (by
        refine XS.icmpYes X11.here hexec rfl (pc0 := 33) rfl (hb hbytes d33) rfl (ii_ne_t hcd) (by decide) rfl ?_
        refine iconstV X11.here hexec rfl 0 (hb hbytes d54) (by decide) ?_
        exact Steps.refl _)
      exact ⟨T11, some (.int 0), _, _, _, X11, rfl, rfl, rfl, (fun h => by cases h), ⟨0, rfl, hh11, Or.inr ⟨rfl, Cod.dif hx.2.2.2.2.1 hy.2.2.2.2.1 hcd⟩⟩, fun fs hl => c13.trans (X11.ireturnOut hexec hret rfl (Or.inr (Or.inl rfl)) (hb hbytes d55) hl)⟩
theorem pays {l : Launch} {R : Room} {p : Program} {e : Env} {below : List Frame} {s : State} {sargs : Array Value} {len W : Nat} (x t : Addr) (V : Cell) (cd : Int32) (n : Nat) (f : Nat → Int32) (y t' : Addr) (V' : Cell) (cd' : Int32) (k : Nat) (g : Nat → Int32) (z : Int32) (htab : tab.before sargs s = true) (hfr : 2 ≤ R.frames) (hlo : W + 28 ≤ R.locals) :
    Back l R p e below s sargs yN len W (fun A₁ a₁ => A₁.cells + 0 ≤ R.cells ∧ A₁.slots + 0 ≤ R.slots ∧ P x t V cd n f y t' V' cd' k g z a₁ A₁.U) (fun A₁ _ v₁ B₁ => Says01 (SameT n f k g) v₁ A₁.U B₁.U ∧ B₁.locs = A₁.locs ++ [] ∧ B₁.cells = A₁.cells + 0 ∧ B₁.slots = A₁.slots + 0) :=
  (law l x t V cd n f y t' V' cd' k g z).pays htab hfr (by omega)
end SEq
end StrChars
namespace StrChars.Road
open Jvm Sem ClassFile Op Lib Jvm.Stand Jvm.Free Jvm.Free.XT
open Jvm.Lib.Cold (StaticIs)
/-- the words of String.equals(Object) -/
abbrev wordsEq : List Jvm.Cond := [.code SEq.yN SEq.yB 3 (some .boolean), .initialized ST, .classLink ST 10 ST, .fieldLink ST 38 ST "COMPACT_STRINGS" "Z", .fieldLink ST 15 ST "coder" "B", .fieldLink ST 9 ST "value" "[B", .methodLink ST 541 LEq.yN, .static LEq.yN, .code LEq.yN LEq.yB 3 (some .boolean), .initialized "java/lang/StringLatin1"]
theorem tabEq_of {a : Array Value} {s : State} (h : ∀ w ∈ wordsEq, w.before a s = true) : SEq.tab.before a s = true := by
  have hl : LEq.tab.before a s = true := unparts (wk h (.code LEq.yN LEq.yB 3 (some .boolean))) (wks h (.initialized LEq.yN.cls :: LEq.site))
  have q := consq hl h
  exact unparts (wk q (.code SEq.yN SEq.yB 3 (some .boolean))) (wks q (.initialized SEq.yN.cls :: SEq.site))
theorem movedEq {Z s : State} {a0 args : Array Value} (hZ : Z.Warmed39 s.vm) (hw : ∀ d ∈ wordsEq, d.before a0 Z = true) : ∀ d ∈ wordsEq, d.before args s = true := fun d hd => by
  have t : ∀ d ∈ wordsEq, (d.onTables && d.keepsFace) = true := by decide +kernel
  exact RoadKit.mv hZ (hw d hd) (t d hd)
/-- the road's facts of a String, as the laws ask it -/
theorem txt_of {Z U : State} {a0 : Array Value} {kI : Nat} (wi : (Jvm.Cond.instantiable ST kI).before a0 Z = true) (al : Z.vm.Alike U.vm) {x t : Addr} {kb : ClassId} {cs : List Int32} {cd N2 : Int32} {vs : List Value} (E : RoadKit.Exa Z U.heap x ST) (V : RoadKit.Fld Z U.heap x ST "value" "[B" (.ref t)) (C : RoadKit.Fld Z U.heap x ST "coder" "B" (.int cd)) (K : RoadKit.Arv Z U.heap t kb .byte N2 vs (.int 0)) (hc : CodA cs cd N2 vs) (hb : ∀ c ∈ cs, ¬ c < 0 ∧ ¬ (65535 : Int32) < c) (l2 : cs.length ≤ 4000) :
    ∃ A, Txt x t A cd cs.length (fun j => cs.getD j 0) U := by
  obtain ⟨A, K1, K2, K3, K4, K5, K6⟩ := K
  have hcod := hc.cod (by omega) K3 K5
  obtain ⟨D, fV, fC, hB, F1, F2, g1, g2, -, -⟩ := strObj wi al E V C
  exact ⟨A, ⟨_, hB.2.2.1, D, hB.1, rfl, by cases q : D.vm <;> first | rfl | exact absurd q (hB.2.1.2 _)⟩, Has.of hB F1 g1, Has.of hB F2 g2, ⟨K1.1, State.isArrayOf_alike al K1.2.1, K1.2.2, by rcases hcod with ⟨-, q, -⟩ | ⟨-, q, -⟩ <;> omega⟩, hcod, fun j hj => by
    have e : cs.getD j 0 = cs[j] := by simp [List.getD_eq_getElem?_getD, hj]
    show ¬ cs.getD j 0 < 0 ∧ ¬ 65535 < cs.getD j 0
    rw [e]; exact hb _ (List.getElem_mem _)⟩
theorem same_list (cs ds : List Int32) : SameT cs.length (fun j => cs.getD j 0) ds.length (fun j => ds.getD j 0) ↔ cs = ds := by
  constructor
  · rintro ⟨e, q⟩
    refine List.ext_getElem e fun j h1 h2 => ?_
    have := q j h1
    simpa [List.getD_eq_getElem?_getD, h1, h2] using this
  · rintro rfl
    exact ⟨rfl, fun _ _ => rfl⟩
/-- **equals(Object) OF TWO SUCH STRINGS**: 1 just where the chars are the same -/
theorem eqW {p : Program} {l : Launch} {e : Env} {R : Room} {s : State} {args : Array Value} {below : List Frame} {len W : Nat} {Z : State} {a0 : Array Value} {h : Heap} (hZ : Z.Warmed39 s.vm) (hw : ∀ d ∈ wordsEq, d.before a0 Z = true) {kI : Nat} (wi : (Jvm.Cond.instantiable ST kI).before a0 Z = true)
    {x t : Addr} {kb : ClassId} {cs : List Int32} {cd N2 : Int32} {vs : List Value} (E : RoadKit.Exa Z h x ST) (V : RoadKit.Fld Z h x ST "value" "[B" (.ref t)) (C : RoadKit.Fld Z h x ST "coder" "B" (.int cd)) (K : RoadKit.Arv Z h t kb .byte N2 vs (.int 0)) (hc : CodA cs cd N2 vs) (hb : ∀ c ∈ cs, ¬ c < 0 ∧ ¬ (65535 : Int32) < c) (l2 : cs.length ≤ 4000)
    {y t' : Addr} {kb' : ClassId} {ds : List Int32} {cd' N2' : Int32} {vs' : List Value} (E' : RoadKit.Exa Z h y ST) (V' : RoadKit.Fld Z h y ST "value" "[B" (.ref t')) (C' : RoadKit.Fld Z h y ST "coder" "B" (.int cd')) (K' : RoadKit.Arv Z h t' kb' .byte N2' vs' (.int 0)) (hc' : CodA ds cd' N2' vs') (hb' : ∀ c ∈ ds, ¬ c < 0 ∧ ¬ (65535 : Int32) < c) (l2' : ds.length ≤ 4000)
    {z : Int32} (S : RoadKit.Sta Z h ST "COMPACT_STRINGS" "Z" (.int z)) (hz : ¬ z = 0) (hfr : 2 ≤ R.frames) (hlo : W + 28 ≤ R.locals) :
    Back l R p e below s args (⟨"java/lang/String", "equals", "(Ljava/lang/Object;)Z"⟩ : MethodName) len W (fun P a => a = #[.ref x, .ref y] ∧ P.U.heap = h ∧ P.cells + 0 ≤ R.cells ∧ P.slots + 0 ≤ R.slots)
      (fun P _ v B => ∃ L, (((v = some (.int 1) ∧ cs = ds) ∨ (v = some (.int 0) ∧ ¬ cs = ds)) ∧ L = [] ∧ B.U.heap = h) ∧ B.locs = P.locs ++ L ∧ B.cells = P.cells + 0 ∧ B.slots = P.slots + 0) := by
  intro m meth c P g ig mk a X hg hsize hdg hW hn hp'
  obtain ⟨rfl, rfl, r1, r2⟩ := hp'
  have al : Z.vm.Alike P.U.vm := hZ.alike.trans X.warmed.alike
  obtain ⟨A, hx⟩ := txt_of wi al E V C K hc hb l2
  obtain ⟨A', hy⟩ := txt_of wi al E' V' C' K' hc' hb' l2'
  obtain ⟨v, B, X', ⟨⟨w, hv, hh, hq⟩, hl, hk, hs⟩, st⟩ := SEq.pays x t A cd cs.length (fun j => cs.getD j 0) y t' A' cd' ds.length (fun j => ds.getD j 0) z (tabEq_of (movedEq hZ hw)) hfr hlo m meth c P g ig mk _ X hg hsize hdg hW hn ⟨r1, r2, rfl, hx, hy, sta_is al S, hz⟩
  refine ⟨v, B, X', ⟨[], ⟨?_, rfl, hh⟩, hl, hk, hs⟩, st⟩
  rcases hq with ⟨rfl, q⟩ | ⟨rfl, q⟩
  · exact Or.inl ⟨hv, (same_list cs ds).mp q⟩
  · exact Or.inr ⟨hv, fun e => q ((same_list cs ds).mpr e)⟩
end StrChars.Road
namespace StrChars.Road
open Jvm Sem ClassFile Op Lib Jvm.Stand Jvm.Free Jvm.Free.XT
open Jvm.Lib.Cold (StaticIs)
/-- what backV says of its String, as the contracts of this text ask it: cs's low bytes, coder 0 -/
theorem codOf {cs : List Int32} {n : Nat} (hn : cs.length = n) (hb : ∀ c ∈ cs, ¬ 255 < c) : CodA cs 0 (Int32.ofNat n) ((cs.map lo8).map Value.int) := Or.inl ⟨rfl, by rw [hn], by simp [List.map_map, Function.comp_def], hb⟩
end StrChars.Road
end Jvm.Pilot.@@N@@

namespace Jvm.Pilot.@@N@@
open Jvm Jvm.ClassFile Sem Op Lib Jvm.Free Jvm.Stand Jvm.LawKit Jvm.RoadKit Bundle Jvm.Pilot.@@N@@.Jvm.D
theorem own_selpriv {s : State} {args : Array Value} {y : MethodName} {n : Nat} (hins : (Jvm.Cond.instantiable y.cls n).before args s = true) (hpriv : (Jvm.Cond.privateMethod y).before args s = true) (hinst : (Jvm.Cond.instanceMethod y).before args s = true) (hy : y.cls ≠ "java/lang/invoke/MethodHandle" ∧ y.cls ≠ "java/lang/invoke/VarHandle") :
    (Jvm.Cond.selects y.cls y y).before args s = true := by
  obtain ⟨c, k, hc, hk, -, hniab, -, -⟩ := Cond.instantiable_spec hins
  have hni : k.isInterface = false := (Bool.or_eq_false_iff.mp hniab).1
  obtain ⟨mk, methM, hnamed, hmethM, -, -⟩ := Cond.instanceMethod_spec hinst
  have hfound : s.methodFound? y.cls y.name y.desc = some mk := State.methodFound?_of_named hnamed hy
  have hcls : mk.cls = c := Option.some.inj ((findClass_of_methodNamed hnamed).symm.trans hc)
  have hsel : selectMethod {} s.vm c mk = .method mk := selectMethod_private hmethM (Cond.privateMethod_at hpriv mk methM hnamed hmethM)
  simp only [Cond.before, Cond.holds, Cond.value, hc, hfound, hnamed, hsel, hcls, hk]
  simp; exact hni
theorem own_nsE {Z : State} {h : Heap} {a : Addr} {C : String} (F : Exa Z h a C) : ∀ c : Cell, h[a]? = some c → c.vm.isStatics = false := by
  obtain ⟨c, k, h1, -, -, h4, -⟩ := F
  intro c' hc; cases h1.symm.trans hc; exact h4
theorem own_nsV {Z : State} {h : Heap} {a : Addr} {k : ClassId} {ty : FieldType} {z : Int32} {vs : List Value} {dv : Value} (F : Arv Z h a k ty z vs dv) : ∀ c : Cell, h[a]? = some c → c.vm.isStatics = false := by
  obtain ⟨c, A, -⟩ := F
  intro c' hc; cases A.1.symm.trans hc; exact A.plain
theorem own_stakeep {Z : State} {h h' : Heap} {C n d : String} {v : Value} {ws : List Addr} (F : Sta Z h C n d v) (K : Keep h h' ws) (q : ∀ x ∈ ws, ∀ c : Cell, h[x]? = some c → c.vm.isStatics = false) : Sta Z h' C n d v := by
  obtain ⟨cf, i, k, f, st, cell, h1, h2, h3, h4, h5, h6, h7⟩ := F
  refine ⟨cf, i, k, f, st, cell, h1, h2, h3, h4, K.2.1 _ _ h5 (fun hm => ?_), h6, h7⟩
  rw [q st hm cell h5] at h6; cases h6
theorem own_ex {args : Array Value} {s : State} {t : Term} {C : String} (h : (Jvm.Cond.exactly t C).value args s none s [] = some true) : ∃ a, t.eval args s none [] s = some (.ref a) ∧ Exa s s.heap a C := by
  obtain ⟨a, e1⟩ := exa_v h; exact ⟨a, e1, Exa.start e1 h⟩
theorem own_evI {args : Array Value} {s : State} {t : Term} {z : Int32} (h : (Jvm.Cond.eq t (.int z)).value args s none s [] = some true) : t.eval args s none [] s = some (.int z) := by
  cases hv : t.eval args s none [] s with
  | none => simp [Cond.value, hv] at h
  | some x => cases x <;> simp [Cond.value, Term.eval, hv] at h ⊢; exact h
theorem own_evJ {args : Array Value} {s : State} {t : Term} {z : Int64} (h : (Jvm.Cond.eq t (.long z)).value args s none s [] = some true) : t.eval args s none [] s = some (.long z) := by
  cases hv : t.eval args s none [] s with
  | none => simp [Cond.value, hv] at h
  | some x => cases x <;> simp [Cond.value, Term.eval, hv] at h ⊢; exact h
theorem own_fldV {args : Array Value} {s : State} {t : Term} {a : Addr} {C n d : String} {v : Value} (ev : t.eval args s none [] s = some (.ref a)) (h : (Term.field t C n d).eval args s none [] s = some v) : Fld s s.heap a C n d v := by
  refine Fld.start ?_
  rw [← fld_at (args := args) (first := s) (o := none) (idx := []) ev]; exact h
theorem own_lt (a b : Int32) : a < b ↔ a.toInt < b.toInt := Int32.lt_iff_toInt_lt
theorem own_le (a b : Int32) : a ≤ b ↔ a.toInt ≤ b.toInt := Int32.le_iff_toInt_le
theorem own_eqi (a b : Int32) : a = b ↔ a.toInt = b.toInt := Int32.toInt_inj.symm
theorem own_ltL (a b : Int64) : a < b ↔ a.toInt < b.toInt := Int64.lt_iff_toInt_lt
theorem own_eqL (a b : Int64) : a = b ↔ a.toInt = b.toInt := Int64.toInt_inj.symm
theorem own_evR {args : Array Value} {s : State} {t u : Term} {a : Addr} (h : (Jvm.Cond.eq t u).value args s none s [] = some true) (hu : u.eval args s none [] s = some (.ref a)) : t.eval args s none [] s = some (.ref a) := by
  cases hv : t.eval args s none [] s with
  | none => simp [Cond.value, hv] at h
  | some x => cases x <;> simp [Cond.value, hu, hv] at h ⊢; exact h
theorem own_len {args : Array Value} {s : State} {t : Term} {a : Addr} {cl : Cell} {z : Int32} (ev : t.eval args s none [] s = some (.ref a)) (hc : s.arrayAt? a = some cl) (h : (Term.length t).eval args s none [] s = some (.int z)) : cl.slots.size < 2 ^ 31 ∧ cl.slots.size.toInt32 = z := by
  by_cases q : cl.slots.size < 2147483648
  · simp [Term.eval, ev, hc, q] at h; exact ⟨q, h⟩
  · simp [Term.eval, ev, hc, q] at h
theorem own_pos (x : Int32) : 0 ≤ (x &&& (2147483647 : Int32)).toInt ∧ (x &&& (2147483647 : Int32)).toInt < 2147483648 := by
  have h := c_mask x 2147483647 31 (by decide) (by decide)
  rw [h]; omega
theorem own_mod5 (x : Int32) : (x &&& (2147483647 : Int32)) % (5 : Int32) = (0 : Int32) ∨ (x &&& (2147483647 : Int32)) % (5 : Int32) = (1 : Int32) ∨ (x &&& (2147483647 : Int32)) % (5 : Int32) = (2 : Int32) ∨ (x &&& (2147483647 : Int32)) % (5 : Int32) = (3 : Int32) ∨ (x &&& (2147483647 : Int32)) % (5 : Int32) = (4 : Int32) := by
  have h := own_pos x
  have q := (c_irem (x &&& (2147483647 : Int32)) (5 : Int32) 5 rfl).1 h.1
  simp only [own_eqi]
  rw [q]
  rw [show (0 : Int32).toInt = 0 from rfl, show (1 : Int32).toInt = 1 from rfl, show (2 : Int32).toInt = 2 from rfl, show (3 : Int32).toInt = 3 from rfl, show (4 : Int32).toInt = 4 from rfl]
  omega

theorem own_u16 {cs : List Int32} (hp : ∀ c ∈ cs, ¬ c < 0 ∧ ¬ (255 : Int32) < c) : ∀ c ∈ cs, ¬ c < 0 ∧ ¬ (65535 : Int32) < c := fun c hc => by
  have q := hp c hc
  simp only [own_lt, show (255 : Int32).toInt = 255 from rfl, show (65535 : Int32).toInt = 65535 from rfl] at *
  omega
theorem own_al0 {P : Int32 → Prop} : ∀ c ∈ ([] : List Int32), P c := fun _ h => nomatch h
theorem own_alS {P : Int32 → Prop} {a : Int32} {L : List Int32} (h : P a) (r : ∀ c ∈ L, P c) : ∀ c ∈ a :: L, P c := fun c hc => (List.mem_cons.mp hc).elim (fun e => e ▸ h) (r c)
theorem own_narC (x : Int32) (h : ¬ x < 0 ∧ ¬ (255 : Int32) < x) : nar .char x = x := by
  have c1 := c_i2c x
  show x.toUInt32.toUInt16.toUInt32.toInt32 = x
  simp only [own_lt, own_eqi, show (0 : Int32).toInt = 0 from rfl, show (255 : Int32).toInt = 255 from rfl] at *
  omega
theorem own_i2c (x : Int32) (h : ¬ x < 0 ∧ ¬ (255 : Int32) < x) : x.toUInt32.toUInt16.toUInt32.toInt32 = x := own_narC x h
theorem own_m255 (x : Int32) : ¬ ((x &&& (255 : Int32)) < (0 : Int32)) ∧ ¬ ((255 : Int32) < (x &&& (255 : Int32))) := by
  have h := c_mask x 255 8 (by decide) (by decide)
  simp only [own_lt, h, show (0 : Int32).toInt = 0 from rfl, show (255 : Int32).toInt = 255 from rfl]; omega
theorem own_m3 (x : Int32) : (x &&& (3 : Int32)) = (0 : Int32) ∨ (x &&& (3 : Int32)) = (1 : Int32) ∨ (x &&& (3 : Int32)) = (2 : Int32) ∨ (x &&& (3 : Int32)) = (3 : Int32) := by
  have h := c_mask x 3 2 (by decide) (by decide)
  simp only [own_eqi, h, show (0 : Int32).toInt = 0 from rfl, show (1 : Int32).toInt = 1 from rfl, show (2 : Int32).toInt = 2 from rfl, show (3 : Int32).toInt = 3 from rfl]; omega
theorem own_nth1 {a b : Int32} {L M : List Int32} (h : a :: L = b :: M) : a = b := (List.cons.inj h).1
theorem own_nth2 {a b a' b' : Int32} {L M : List Int32} (h : a' :: a :: L = b' :: b :: M) : a = b := (List.cons.inj (List.cons.inj h).2).1
theorem own_nth3 {a b a' b' a2 b2 : Int32} {L M : List Int32} (h : a2 :: a' :: a :: L = b2 :: b' :: b :: M) : a = b := (List.cons.inj (List.cons.inj (List.cons.inj h).2).2).1

theorem own_x0 (a : Int32) : a ^^^ (0 : Int32) = a := by simp
theorem own_xor0 {a b : Int32} (h : a ^^^ b = a) : b = 0 := by
  have q : a ^^^ (a ^^^ b) = a ^^^ a := by rw [h]
  rw [← Int32.xor_assoc, Int32.xor_self, Int32.zero_xor] at q
  exact q
theorem own_xand (a b c : Int32) : (a ^^^ b) &&& c = (a &&& c) ^^^ (b &&& c) := by
  apply Int32.toBitVec_inj.mp
  simp only [Int32.toBitVec_and, Int32.toBitVec_xor]
  ext i hi
  simp only [BitVec.getElem_and, BitVec.getElem_xor]
  cases a.toBitVec[i] <;> cases b.toBitVec[i] <;> cases c.toBitVec[i] <;> rfl
theorem own_xorr (a b : Int32) (ha : ¬ (a < (0 : Int32)) ∧ ¬ ((255 : Int32) < a)) (hb : ¬ (b < (0 : Int32)) ∧ ¬ ((255 : Int32) < b)) : ¬ ((a ^^^ b) < (0 : Int32)) ∧ ¬ ((255 : Int32) < (a ^^^ b)) := by
  have e : a ^^^ b = (a ^^^ b) &&& (255 : Int32) := by
    have ea : a &&& (255 : Int32) = a := by
      have h := c_mask a 255 8 (by decide) (by decide)
      simp only [own_lt, own_eqi, h, show (0 : Int32).toInt = 0 from rfl, show (255 : Int32).toInt = 255 from rfl] at *; omega
    have eb : b &&& (255 : Int32) = b := by
      have h := c_mask b 255 8 (by decide) (by decide)
      simp only [own_lt, own_eqi, h, show (0 : Int32).toInt = 0 from rfl, show (255 : Int32).toInt = 255 from rfl] at *; omega
    rw [own_xand, ea, eb]
  rw [e]; exact own_m255 _
theorem own_safe_null {Z : State} {EL : List (String × Nat)} {vm : Vm} {h : Heap} {a : Addr} (hal : Z.vm.Alike vm) (H : CHv Z EL vm h) (E : Exa Z h a "java/lang/String") (F : Fld Z h a "java/lang/String" "value" "[B" .null) : Safe Z EL vm h a := fun B => by
  obtain ⟨p, -, u, a', -, q, -, F', hy⟩ := B
  obtain ⟨cS, ⟨⟨s1, s2, s3, ⟨cv, kv, iv, s4, s4'⟩, ⟨cc, kc, ic, s5, s5'⟩, s6, s7, s8, s9, s10, s11, -⟩, hfS, hcS⟩, -, hB, -⟩ := F'
  obtain ⟨kv', z4⟩ := ff_back (U := Wst Z vm h) hal s4
  have z4 : Z.fieldFound? "java/lang/String" "value" "[B" = some (cv, kv', iv, q.fSV) := z4
  rcases hy with rfl | rfl
  · obtain ⟨cell, cf, k, i, f, h1, h2, h3, -, -, -, h7⟩ := F
    have e1 : cell = q.sC := Option.some.inj (h1.symm.trans s1)
    rw [z4] at h2
    cases h2
    rw [e1, s8] at h7
    cases h7
  · obtain ⟨cell, k, h1, h2, -⟩ := E
    have e1 : cell = q.SA := Option.some.inj (h1.symm.trans s10)
    have hB : vm.findClass "[B" = some q.SA.cls := hB
    rw [hal.findClass] at hB
    rw [e1] at h2
    obtain ⟨k1, g1, g2⟩ := Vm.findClass_spec h2
    obtain ⟨k2, g3, g4⟩ := Vm.findClass_spec hB
    rw [Option.some.inj (g1.symm.trans g3), g4] at g2
    exact absurd g2 (by decide)
theorem pn_0 : plainName "java/lang/String" = true := by first | (simp [plainName, overriddenIn]; done) | decide +kernel
theorem d1_0 : decode jdk_42_method_149_code 0 = .ok (.aload_n 0, 1) := by decide +kernel
theorem d1_1 : decode jdk_42_method_149_code 1 = .ok (.invokespecial 1, 3) := by decide +kernel
theorem d1_4 : decode jdk_42_method_149_code 4 = .ok (.iload_n 3, 1) := by decide +kernel
theorem d1_5 : decode jdk_42_method_149_code 5 = .ok (.ifCond .ne 22, 3) := by decide +kernel
theorem d1_8 : decode jdk_42_method_149_code 8 = .ok (.aload_n 0, 1) := by decide +kernel
theorem d1_9 : decode jdk_42_method_149_code 9 = .ok (.ldc 7, 2) := by decide +kernel
theorem d1_11 : decode jdk_42_method_149_code 11 = .ok (.getfield 9, 3) := by decide +kernel
theorem d1_14 : decode jdk_42_method_149_code 14 = .ok (.putfield 9, 3) := by decide +kernel
theorem d1_17 : decode jdk_42_method_149_code 17 = .ok (.aload_n 0, 1) := by decide +kernel
theorem d1_18 : decode jdk_42_method_149_code 18 = .ok (.ldc 7, 2) := by decide +kernel
theorem d1_20 : decode jdk_42_method_149_code 20 = .ok (.getfield 15, 3) := by decide +kernel
theorem d1_23 : decode jdk_42_method_149_code 23 = .ok (.putfield 15, 3) := by decide +kernel
theorem d1_26 : decode jdk_42_method_149_code 26 = .ok (.return_, 1) := by decide +kernel
theorem ef_1 (m : MethodId) (a1_0 : Addr) (a1_1 : Addr) : entryFrame m #[(.ref a1_0), (.ref a1_1), (.int (0 : Int32)), (.int (0 : Int32)), .null] 6 = mkF m 0 #[.val (.ref a1_0), .val (.ref a1_1), .val (.int (0 : Int32)), .val (.int (0 : Int32)), .val .null, .unset] [] := by first | (simp [entryFrame, mkF, argsToLocals, Value.category]; done) | rfl
def Q1 (Z : State) (a1_0 : Addr) (a1_1 : Addr) (h0 : Heap) (n0 : Nat) (v : Option Value) (h : Heap) (L : List Loc) : Prop := ∃ d1 : Nat, ∃ kv1 : ClassId, v = none ∧ Fr n0 L ∧ Keep h0 h [a1_0] ∧ Exa Z h a1_0 "java/lang/String" ∧ Fld Z h a1_0 "java/lang/String" "value" "[B" (.ref d1) ∧ Fld Z h a1_0 "java/lang/String" "coder" "B" (.int (0 : Int32)) ∧ Arv Z h d1 kv1 .byte (0 : Int32) [] (.int (0 : Int32))
set_option maxRecDepth 65536 in
set_option maxHeartbeats 40000000 in
theorem rm1 (l : Launch) (Z : State) (a0 : Array Value) (hw : ∀ d ∈ tables_1, d.before a0 Z = true) (ws : List Jvm.Cond) (hEL : EW Z a0 consts_1) (wS : ∀ a ∈ Bundle.stringAtoms, a.before a0 Z = true) (a1_0 : Addr) (a1_1 : Addr) (h0 : Heap) (n0 : Nat) (Z0 : n0 ≤ h0.size) (Ea : Exa Z h0 a1_0 "java/lang/String") (Fv : Fld Z h0 a1_0 "java/lang/String" "value" "[B" .null) (Fc : Fld Z h0 a1_0 "java/lang/String" "coder" "B" (.int (0 : Int32))) (g_a1_0 : n0 ≤ a1_0) :
    MetFree l (⟨"java/lang/String", "<init>", "([CIILjava/lang/Void;)V"⟩ : MethodName) (head1 (Jvm.Cond.code (⟨"java/lang/String", "<init>", "([CIILjava/lang/Void;)V"⟩ : MethodName) jdk_42_method_149_code 6 none :: ws) ({ frames := 1, cells := 4, slots := 8, locals := 12 } : Room)) (fun a U => a = #[(.ref a1_0), (.ref a1_1), (.int (0 : Int32)), (.int (0 : Int32)), .null] ∧ Z.Warmed39 U.vm ∧ U.heap = h0 ∧ CHv Z consts_1 U.vm h0) (fun _ _ _ _ _ => True) (fun _ U o U' => ∃ v L, o = .returned v ∧ Q1 Z a1_0 a1_1 h0 n0 v U'.heap L ∧ CHr Z consts_1 U.vm U.heap U'.vm U'.heap ∧ ReturnedEndW U o U' L ({ frames := 1, cells := 4, slots := 8, locals := 12 } : Room).cells ({ frames := 1, cells := 4, slots := 8, locals := 12 } : Room).slots) := by
  refine MetFree.of_bodySF (plainFor_of_name pn_0) hisR ?_
  intro p e s m args below meth c s₁ Bd hml0 hP hK
  obtain ⟨rfl, hZ, hh, hCH⟩ := hP
  have hx := Bd.exec
  have hby := Bd.bytes
  have hml : c.maxLocals = 6 := hml0
  have hown : s.vm.findClass "java/lang/String" = some m.cls := findClass_of_methodNamed Bd.named
  have hnm := (name_of_methodNamed Bd.named Bd.method).1
  have X0 : Stand p l e ({ frames := 1, cells := 4, slots := 8, locals := 12 } : Room) (s.setVm s.vm) m #[(.ref a1_0), (.ref a1_1), (.int (0 : Int32)), (.int (0 : Int32)), .null] below meth c s₁ [] 0 0 := Stand.of_body Bd
  have e0 : s₁.heap = h0 := by rw [← hh, Bd.state]; rfl
  have N0 := Fr.nil n0
  have hS : s.Since s.vm h0.size := (State.WarmedH.refl s).since _
  have hk : h0.size ≤ h0.size := Nat.le_refl _
  have hCR : CHr Z consts_1 s.vm h0 s.vm h0 := CHr.refl hCH
  have pre0 : ∀ t, Steps p.tables e below (s₁.setTop (mkF m 0 #[.val (.ref a1_0), .val (.ref a1_1), .val (.int (0 : Int32)), .val (.int (0 : Int32)), .val .null, .unset] [])) t → Steps p.tables e below (s₁.setTop (entryFrame m #[(.ref a1_0), (.ref a1_1), (.int (0 : Int32)), (.int (0 : Int32)), .null] 6)) t := fun t k => castTop (ef_1 m a1_0 a1_1) k
  obtain ⟨T1, X1, e1, st1⟩ := initO X0 hx hZ hown (hw _ (List.mem_of_getElem? (i := 19) rfl)) (hw _ (List.mem_of_getElem? (i := 20) rfl)) (hw _ (List.mem_of_getElem? (i := 21) rfl)) e0 (g := (mkF m 1 #[.val (.ref a1_0), .val (.ref a1_1), .val (.int (0 : Int32)), .val (.int (0 : Int32)), .val .null, .unset] [(.ref a1_0)])) rfl (by rw [hml]; rfl) rfl (hb hby d1_1) (by decide) (W := 0) (by show 2 * 0 + _ ≤ _; exact Nat.le_of_eq rfl) (by decide)
  have sfa := own_safe_null hZ.alike hCR.1 Ea Fv
  obtain ⟨b2, T2, h2, k2, d2, kb2, X2, e2, E2, hS, hk, hZ, hown, Ex2, Fc2, Fv2, V2, lta2, ltb2, hC2, hL2, hsf2, st2⟩ := ldcCH X1 hx hZ hown (hw _ (List.mem_of_getElem? (i := 65) rfl)) wS e1 hS hk hEL (List.mem_of_getElem? (i := 0) rfl) hCR.1 (vs := []) (z := (0 : Int32)) ⟨by decide, rfl⟩ (by decide) rfl (g := (mkF m 9 #[.val (.ref a1_0), .val (.ref a1_1), .val (.int (0 : Int32)), .val (.int (0 : Int32)), .val .null, .unset] [(.ref a1_0)])) rfl (hb hby d1_9) (n := 0) (by decide) (by decide) (by decide) (by decide)
  have sf3 := hC2.safe Ea.lt sfa
  have hCR := hCR.trans hC2
  have Zs2 : n0 ≤ h2.size := Nat.le_trans Z0 E2.1
  have K2 : Keep h0 h2 [a1_0] := (Keep.refl h0 [a1_0]).ext E2
  have F4 : Exa Z h2 a1_0 "java/lang/String" := Ea.ext E2
  have F5 : Fld Z h2 a1_0 "java/lang/String" "value" "[B" .null := Fv.ext E2
  have F6 : Fld Z h2 a1_0 "java/lang/String" "coder" "B" (.int (0 : Int32)) := Fc.ext E2
  have ne7 := hsf2 _ sf3
  obtain ⟨T8, X8, e8, st8⟩ := getF X2 hx hZ hown (host := "") (Or.inl (hw _ (List.mem_of_getElem? (i := 36) rfl))) Via.refl e2 Fv2 (g := (mkF m 11 #[.val (.ref a1_0), .val (.ref a1_1), .val (.int (0 : Int32)), .val (.int (0 : Int32)), .val .null, .unset] [(.ref b2), (.ref a1_0)])) rfl rfl (hb hby d1_11)
  obtain ⟨T9, h9, X9, e9, W9, st9⟩ := putF X8 hx hZ hown (host := "") (Or.inl (hw _ (List.mem_of_getElem? (i := 36) rfl))) Via.refl e8 F5 F4 (Or.inr ⟨(hw _ (List.mem_of_getElem? (i := 37) rfl)), rfl, hnm⟩) (hw _ (List.mem_of_getElem? (i := 9) rfl)) (ty := (.array .byte)) (by decide) rfl rfl (g := (mkF m 14 #[.val (.ref a1_0), .val (.ref a1_1), .val (.int (0 : Int32)), .val (.int (0 : Int32)), .val .null, .unset] [(.ref d2), (.ref a1_0)])) rfl rfl (hb hby d1_14)
  have Fw9 : Fld Z h9 a1_0 "java/lang/String" "value" "[B" (.ref d2) := F5.same W9
  have sf10 := Safe.wr W9 sf3 hCR.1 sf3
  have hCR := hCR.trans (CHr.wr W9 sf3 hCR.1)
  have hk := Nat.le_trans hk (Nat.le_of_eq W9.size.symm)
  have F11 : Exa Z h9 a1_0 "java/lang/String" := F4.wr W9
  have F13 : Fld Z h9 a1_0 "java/lang/String" "coder" "B" (.int (0 : Int32)) := F6.other W9 (Or.inr (slot_ne (Or.inr (hw _ (List.mem_of_getElem? (i := 35) rfl))) (Or.inr (hw _ (List.mem_of_getElem? (i := 37) rfl))) (by decide) (t := .byte) (t' := (.array .byte)) (by decide) (by decide)))
  have F14 : Exa Z h9 b2 "java/lang/String" := Ex2.wr W9
  have F15 : Fld Z h9 b2 "java/lang/String" "coder" "B" (.int (0 : Int32)) := Fc2.other W9 (Or.inl (Ne.symm ne7.1))
  have F16 : Fld Z h9 b2 "java/lang/String" "value" "[B" (.ref d2) := Fv2.other W9 (Or.inl (Ne.symm ne7.1))
  have F17 : Arv Z h9 d2 kb2 .byte (0 : Int32) [] (.int (0 : Int32)) := V2.other W9 (Ne.symm ne7.2)
  have N9 := Fr.snoc X9 N0 g_a1_0
  have K9 : Keep h0 h9 [a1_0] := K2.wr W9 (Or.inl (List.mem_of_getElem? (i := 0) rfl))
  have Zs9 : n0 ≤ h9.size := by rw [W9.size]; exact Zs2
  obtain ⟨b18, T18, h18, k18, d18, kb18, X18, e18, E18, hS, hk, hZ, hown, Ex18, Fc18, Fv18, V18, lta18, ltb18, hC18, hL18, hsf18, st18⟩ := ldcCH X9 hx hZ hown (hw _ (List.mem_of_getElem? (i := 65) rfl)) wS e9 hS hk hEL (List.mem_of_getElem? (i := 0) rfl) hCR.1 (vs := []) (z := (0 : Int32)) ⟨by decide, rfl⟩ (by decide) rfl (g := (mkF m 18 #[.val (.ref a1_0), .val (.ref a1_1), .val (.int (0 : Int32)), .val (.int (0 : Int32)), .val .null, .unset] [(.ref a1_0)])) rfl (hb hby d1_18) (n := 0) (by decide) (by decide) (by decide) (by decide)
  have sf19 := hC18.safe F11.lt sf10
  have hCR := hCR.trans hC18
  have Zs18 : n0 ≤ h18.size := Nat.le_trans Zs9 E18.1
  have K18 : Keep h0 h18 [a1_0] := K9.ext E18
  have F20 : Exa Z h18 a1_0 "java/lang/String" := F11.ext E18
  have F21 : Fld Z h18 a1_0 "java/lang/String" "coder" "B" (.int (0 : Int32)) := F13.ext E18
  have F22 : Exa Z h18 b2 "java/lang/String" := F14.ext E18
  have F23 : Fld Z h18 b2 "java/lang/String" "coder" "B" (.int (0 : Int32)) := F15.ext E18
  have F24 : Fld Z h18 b2 "java/lang/String" "value" "[B" (.ref d2) := F16.ext E18
  have F25 : Arv Z h18 d2 kb2 .byte (0 : Int32) [] (.int (0 : Int32)) := F17.ext E18
  have F26 : Fld Z h18 a1_0 "java/lang/String" "value" "[B" (.ref d2) := Fw9.ext E18
  have ne27 := hsf18 _ sf19
  obtain ⟨T28, X28, e28, st28⟩ := getF X18 hx hZ hown (host := "") (Or.inl (hw _ (List.mem_of_getElem? (i := 34) rfl))) Via.refl e18 Fc18 (g := (mkF m 20 #[.val (.ref a1_0), .val (.ref a1_1), .val (.int (0 : Int32)), .val (.int (0 : Int32)), .val .null, .unset] [(.ref b18), (.ref a1_0)])) rfl rfl (hb hby d1_20)
  obtain ⟨T29, h29, X29, e29, W29, st29⟩ := putFN X28 hx hZ hown (hw _ (List.mem_of_getElem? (i := 34) rfl)) Via.refl e28 F21 F20 (Or.inr ⟨(hw _ (List.mem_of_getElem? (i := 35) rfl)), rfl, hnm⟩) (hw _ (List.mem_of_getElem? (i := 9) rfl)) (ty := .byte) (v' := .int (0 : Int32)) (by decide) rfl (by decide) (g := (mkF m 23 #[.val (.ref a1_0), .val (.ref a1_1), .val (.int (0 : Int32)), .val (.int (0 : Int32)), .val .null, .unset] [(.int (0 : Int32)), (.ref a1_0)])) rfl rfl (hb hby d1_23)
  have Fw29 : Fld Z h29 a1_0 "java/lang/String" "coder" "B" (.int (0 : Int32)) := F21.same W29
  have sf30 := Safe.wr W29 sf19 hCR.1 sf19
  have hCR := hCR.trans (CHr.wr W29 sf19 hCR.1)
  have hk := Nat.le_trans hk (Nat.le_of_eq W29.size.symm)
  have F31 : Exa Z h29 a1_0 "java/lang/String" := F20.wr W29
  have F33 : Exa Z h29 b2 "java/lang/String" := F22.wr W29
  have F34 : Fld Z h29 b2 "java/lang/String" "coder" "B" (.int (0 : Int32)) := F23.other W29 (Or.inl (Ne.symm ne7.1))
  have F35 : Fld Z h29 b2 "java/lang/String" "value" "[B" (.ref d2) := F24.other W29 (Or.inl (Ne.symm ne7.1))
  have F36 : Arv Z h29 d2 kb2 .byte (0 : Int32) [] (.int (0 : Int32)) := F25.other W29 (Ne.symm ne7.2)
  have F37 : Fld Z h29 a1_0 "java/lang/String" "value" "[B" (.ref d2) := F26.other W29 (Or.inr (slot_ne (Or.inr (hw _ (List.mem_of_getElem? (i := 37) rfl))) (Or.inr (hw _ (List.mem_of_getElem? (i := 35) rfl))) (by decide) (t := (.array .byte)) (t' := .byte) (by decide) (by decide)))
  have F38 : Exa Z h29 b18 "java/lang/String" := Ex18.wr W29
  have F39 : Fld Z h29 b18 "java/lang/String" "coder" "B" (.int (0 : Int32)) := Fc18.other W29 (Or.inl (Ne.symm ne27.1))
  have F40 : Fld Z h29 b18 "java/lang/String" "value" "[B" (.ref d18) := Fv18.other W29 (Or.inl (Ne.symm ne27.1))
  have F41 : Arv Z h29 d18 kb18 .byte (0 : Int32) [] (.int (0 : Int32)) := V18.other W29 (Ne.symm ne27.2)
  have N29 := Fr.snoc X29 N9 g_a1_0
  have K29 : Keep h0 h29 [a1_0] := K18.wr W29 (Or.inl (List.mem_of_getElem? (i := 0) rfl))
  have Zs29 : n0 ≤ h29.size := by rw [W29.size]; exact Zs18
  have k42 : ∀ t, Steps p.tables e below (T29.setTop (mkF m 26 #[.val (.ref a1_0), .val (.ref a1_1), .val (.int (0 : Int32)), .val (.int (0 : Int32)), .val .null, .unset] [])) t → Steps p.tables e below (s₁.setTop (entryFrame m #[(.ref a1_0), (.ref a1_1), (.int (0 : Int32)), (.int (0 : Int32)), .null] 6)) t := by
    intro t k
    refine pre0 t ?_
    show Steps p.tables e below (s₁.setTop (mkF m 0 #[.val (.ref a1_0), .val (.ref a1_1), .val (.int (0 : Int32)), .val (.int (0 : Int32)), .val .null, .unset] [])) _
    refine XS.aloadN X0.here hx rfl (hb hby d1_0) rfl rfl ?_
    show Steps p.tables e below (s₁.setTop (mkF m 1 #[.val (.ref a1_0), .val (.ref a1_1), .val (.int (0 : Int32)), .val (.int (0 : Int32)), .val .null, .unset] [(.ref a1_0)])) _
    refine st1 _ ?_
    show Steps p.tables e below (T1.setTop (mkF m 4 #[.val (.ref a1_0), .val (.ref a1_1), .val (.int (0 : Int32)), .val (.int (0 : Int32)), .val .null, .unset] [])) _
    refine XS.iloadN X1.here hx rfl (hb hby d1_4) rfl ?_
    show Steps p.tables e below (T1.setTop (mkF m 5 #[.val (.ref a1_0), .val (.ref a1_1), .val (.int (0 : Int32)), .val (.int (0 : Int32)), .val .null, .unset] [(.int (0 : Int32))])) _
    refine XS.ifNo X1.here hx rfl (hb hby d1_5) rfl ((if0 _ _).trans (teq (by decide : (0 : Int32) = (0 : Int32))).2) ?_
    show Steps p.tables e below (T1.setTop (mkF m 8 #[.val (.ref a1_0), .val (.ref a1_1), .val (.int (0 : Int32)), .val (.int (0 : Int32)), .val .null, .unset] [])) _
    refine XS.aloadN X1.here hx rfl (hb hby d1_8) rfl rfl ?_
    show Steps p.tables e below (T1.setTop (mkF m 9 #[.val (.ref a1_0), .val (.ref a1_1), .val (.int (0 : Int32)), .val (.int (0 : Int32)), .val .null, .unset] [(.ref a1_0)])) _
    refine st2 _ ?_
    show Steps p.tables e below (T2.setTop (mkF m 11 #[.val (.ref a1_0), .val (.ref a1_1), .val (.int (0 : Int32)), .val (.int (0 : Int32)), .val .null, .unset] [(.ref b2), (.ref a1_0)])) _
    refine st8 _ ?_
    show Steps p.tables e below (T8.setTop (mkF m 14 #[.val (.ref a1_0), .val (.ref a1_1), .val (.int (0 : Int32)), .val (.int (0 : Int32)), .val .null, .unset] [(.ref d2), (.ref a1_0)])) _
    refine st9 _ ?_
    show Steps p.tables e below (T9.setTop (mkF m 17 #[.val (.ref a1_0), .val (.ref a1_1), .val (.int (0 : Int32)), .val (.int (0 : Int32)), .val .null, .unset] [])) _
    refine XS.aloadN X9.here hx rfl (hb hby d1_17) rfl rfl ?_
    show Steps p.tables e below (T9.setTop (mkF m 18 #[.val (.ref a1_0), .val (.ref a1_1), .val (.int (0 : Int32)), .val (.int (0 : Int32)), .val .null, .unset] [(.ref a1_0)])) _
    refine st18 _ ?_
    show Steps p.tables e below (T18.setTop (mkF m 20 #[.val (.ref a1_0), .val (.ref a1_1), .val (.int (0 : Int32)), .val (.int (0 : Int32)), .val .null, .unset] [(.ref b18), (.ref a1_0)])) _
    refine st28 _ ?_
    show Steps p.tables e below (T28.setTop (mkF m 23 #[.val (.ref a1_0), .val (.ref a1_1), .val (.int (0 : Int32)), .val (.int (0 : Int32)), .val .null, .unset] [(.int (0 : Int32)), (.ref a1_0)])) _
    refine st29 _ ?_
    exact k
  obtain ⟨fs, hr, hrun, hended, hE1, hE2, hE3, hE4⟩ := X29.leaveW hS (by rw [e29]; exact hk) (v := none) (fun _ => rfl)
  have hCE := hCR.trans (CHv.at X29 hZ hEL hCR.1)
  refine ⟨_, _, k42 _ ?_, hrun, hended, _, _, rfl, ?_, (by show CHr Z consts_1 s.vm s.heap T29.vm T29.heap; rw [hh, e29]; exact hCE), ⟨_, rfl⟩, hE2, hE3, hE4.mono (by decide) (by decide)⟩
  · exact X29.returnOut hx Bd.returns (hb hby d1_26) hr
  · show Q1 Z a1_0 a1_1 h0 n0 _ T29.heap _
    rw [e29]
    exact ⟨d2, kb2, rfl, N29, K29, F31, F37, Fw29, F36⟩
theorem pd_0 : parseMethodDescriptor "([CIILjava/lang/Void;)V" = some ⟨[(.array .char), .int, .int, (.object "java/lang/Void")], none⟩ := by decide +kernel
theorem d2_0 : decode jdk_42_method_3_code 0 = .ok (.aload_n 0, 1) := by decide +kernel
theorem d2_1 : decode jdk_42_method_3_code 1 = .ok (.aload_n 1, 1) := by decide +kernel
theorem d2_2 : decode jdk_42_method_3_code 2 = .ok (.iconst 0, 1) := by decide +kernel
theorem d2_3 : decode jdk_42_method_3_code 3 = .ok (.aload_n 1, 1) := by decide +kernel
theorem d2_4 : decode jdk_42_method_3_code 4 = .ok (.arraylength, 1) := by decide +kernel
theorem d2_5 : decode jdk_42_method_3_code 5 = .ok (.aconst_null, 1) := by decide +kernel
theorem d2_6 : decode jdk_42_method_3_code 6 = .ok (.invokespecial 27, 3) := by decide +kernel
theorem d2_9 : decode jdk_42_method_3_code 9 = .ok (.return_, 1) := by decide +kernel
theorem ef_2 (m : MethodId) (a2_0 : Addr) (a2_1 : Addr) : entryFrame m #[(.ref a2_0), (.ref a2_1)] 2 = mkF m 0 #[.val (.ref a2_0), .val (.ref a2_1)] [] := by first | (simp [entryFrame, mkF, argsToLocals, Value.category]; done) | rfl
def Q2 (Z : State) (a2_0 : Addr) (a2_1 : Addr) (kk : ClassId) (h0 : Heap) (n0 : Nat) (v : Option Value) (h : Heap) (L : List Loc) : Prop := ∃ d2 : Nat, ∃ kv2 : ClassId, v = none ∧ Fr n0 L ∧ Keep h0 h [a2_0] ∧ Exa Z h a2_0 "java/lang/String" ∧ Fld Z h a2_0 "java/lang/String" "value" "[B" (.ref d2) ∧ Fld Z h a2_0 "java/lang/String" "coder" "B" (.int (0 : Int32)) ∧ Arv Z h d2 kv2 .byte (0 : Int32) [] (.int (0 : Int32))
set_option maxRecDepth 65536 in
set_option maxHeartbeats 40000000 in
theorem rm2 (l : Launch) (Z : State) (a0 : Array Value) (hw : ∀ d ∈ tables_1, d.before a0 Z = true) (ws : List Jvm.Cond) (hEL : EW Z a0 consts_1) (wS : ∀ a ∈ Bundle.stringAtoms, a.before a0 Z = true) (a2_0 : Addr) (a2_1 : Addr) (kk : ClassId) (h0 : Heap) (n0 : Nat) (Z0 : n0 ≤ h0.size) (Ea : Exa Z h0 a2_0 "java/lang/String") (Fv : Fld Z h0 a2_0 "java/lang/String" "value" "[B" .null) (Fc : Fld Z h0 a2_0 "java/lang/String" "coder" "B" (.int (0 : Int32))) (Vc : Arv Z h0 a2_1 kk .char (0 : Int32) [] (.int (0 : Int32))) (g_a2_0 : n0 ≤ a2_0) :
    MetFree l (⟨"java/lang/String", "<init>", "([C)V"⟩ : MethodName) (head1 (Jvm.Cond.code (⟨"java/lang/String", "<init>", "([C)V"⟩ : MethodName) jdk_42_method_3_code 2 none :: ws) ({ frames := 2, cells := 4, slots := 8, locals := 29 } : Room)) (fun a U => a = #[(.ref a2_0), (.ref a2_1)] ∧ Z.Warmed39 U.vm ∧ U.heap = h0 ∧ CHv Z consts_1 U.vm h0) (fun _ _ _ _ _ => True) (fun _ U o U' => ∃ v L, o = .returned v ∧ Q2 Z a2_0 a2_1 kk h0 n0 v U'.heap L ∧ CHr Z consts_1 U.vm U.heap U'.vm U'.heap ∧ ReturnedEndW U o U' L ({ frames := 2, cells := 4, slots := 8, locals := 29 } : Room).cells ({ frames := 2, cells := 4, slots := 8, locals := 29 } : Room).slots) := by
  refine MetFree.of_bodySF (plainFor_of_name pn_0) hisR ?_
  intro p e s m args below meth c s₁ Bd hml0 hP hK
  obtain ⟨rfl, hZ, hh, hCH⟩ := hP
  have hx := Bd.exec
  have hby := Bd.bytes
  have hml : c.maxLocals = 2 := hml0
  have hown : s.vm.findClass "java/lang/String" = some m.cls := findClass_of_methodNamed Bd.named
  have hnm := (name_of_methodNamed Bd.named Bd.method).1
  have X0 : Stand p l e ({ frames := 2, cells := 4, slots := 8, locals := 29 } : Room) (s.setVm s.vm) m #[(.ref a2_0), (.ref a2_1)] below meth c s₁ [] 0 0 := Stand.of_body Bd
  have e0 : s₁.heap = h0 := by rw [← hh, Bd.state]; rfl
  have N0 := Fr.nil n0
  have hS : s.Since s.vm h0.size := (State.WarmedH.refl s).since _
  have hk : h0.size ≤ h0.size := Nat.le_refl _
  have hCR : CHr Z consts_1 s.vm h0 s.vm h0 := CHr.refl hCH
  have pre0 : ∀ t, Steps p.tables e below (s₁.setTop (mkF m 0 #[.val (.ref a2_0), .val (.ref a2_1)] [])) t → Steps p.tables e below (s₁.setTop (entryFrame m #[(.ref a2_0), (.ref a2_1)] 2)) t := fun t k => castTop (ef_2 m a2_0 a2_1) k
  obtain ⟨cl1, Ar1, qc1, Sz1, Nn1, Hh1, Gg1⟩ := (id Vc)
  obtain ⟨_, _, ⟨T2, L2, k2, n2⟩, -, X2, hS2, hg2, ⟨Lc2, hQ2, l2, y2, z2, hC2⟩, st2⟩ := X0.specialBackS hx (y := (⟨"java/lang/String", "<init>", "([CIILjava/lang/Void;)V"⟩ : MethodName)) rfl hown (mvT hZ (hw _ (List.mem_of_getElem? (i := 15) rfl))) (mvT hZ (hw _ (List.mem_of_getElem? (i := 16) rfl))) (mvT hZ (hw _ (List.mem_of_getElem? (i := 18) rfl))) (by decide) (backOfSH (W := 0) (rm1 l Z a0 hw [] hEL wS a2_0 a2_1 h0 n0 Z0 Ea Fv Fc g_a2_0) hZ (hw _ (List.mem_of_getElem? (i := 18) rfl)) (hw _ (List.mem_of_getElem? (i := 10) rfl)) (by decide) (by decide) hEL hCR.1) (g := (mkF m 6 #[.val (.ref a2_0), .val (.ref a2_1)] [.null, (.int (0 : Int32)), (.int (0 : Int32)), (.ref a2_1), (.ref a2_0)])) rfl (by rw [hml]; rfl) (Steps.refl _) (a := a2_0) (argsL := [(.ref a2_1), (.int (0 : Int32)), (.int (0 : Int32)), .null]) (rest := []) (lenOf pd_0 rfl) rfl (by show 2 * 0 + _ ≤ _; exact Nat.le_of_eq rfl) (hb hby d2_6) (fun _ _ => ⟨rfl, e0, (by decide : 0 + 4 ≤ _), (by decide : 0 + 8 ≤ _)⟩)
  dsimp only [Pt.U, Pt.locs, Pt.cells, Pt.slots] at X2 hS2 hg2 hC2 l2 y2 z2 st2 hQ2
  subst l2 y2 z2
  have hZ_2 := hZ
  obtain ⟨X2, hS, hZ, hown⟩ := rebS hS (by rw [e0]; exact hk) X2 hS2 hg2 hZ hown
  have hk := Nat.le_refl T2.heap.size
  have hCR := hCR.trans hC2
  obtain ⟨d1_2, kv1_2, rfl, N2q, Kc2, G2_0, G2_1, G2_2, G2_3⟩ := hQ2
  have Zs2 : n0 ≤ T2.heap.size := Nat.le_trans Z0 Kc2.1
  have K2 : Keep h0 T2.heap [a2_0] := (Keep.refl h0 [a2_0]).trans Kc2 (allS (Or.inl (List.mem_of_getElem? (i := 0) rfl)) all0)
  have N2 := Fr.app N0 N2q
  have k4 : ∀ t, Steps p.tables e below (T2.setTop (mkF m 9 #[.val (.ref a2_0), .val (.ref a2_1)] [])) t → Steps p.tables e below (s₁.setTop (entryFrame m #[(.ref a2_0), (.ref a2_1)] 2)) t := by
    intro t k
    refine pre0 t ?_
    show Steps p.tables e below (s₁.setTop (mkF m 0 #[.val (.ref a2_0), .val (.ref a2_1)] [])) _
    refine XS.aloadN X0.here hx rfl (hb hby d2_0) rfl rfl ?_
    show Steps p.tables e below (s₁.setTop (mkF m 1 #[.val (.ref a2_0), .val (.ref a2_1)] [(.ref a2_0)])) _
    refine XS.aloadN X0.here hx rfl (hb hby d2_1) rfl rfl ?_
    show Steps p.tables e below (s₁.setTop (mkF m 2 #[.val (.ref a2_0), .val (.ref a2_1)] [(.ref a2_1), (.ref a2_0)])) _
    refine XS.iconst X0.here hx rfl (hb hby d2_2) ?_
    show Steps p.tables e below (s₁.setTop (mkF m 3 #[.val (.ref a2_0), .val (.ref a2_1)] [(.int (0 : Int32)), (.ref a2_1), (.ref a2_0)])) _
    refine XS.aloadN X0.here hx rfl (hb hby d2_3) rfl rfl ?_
    show Steps p.tables e below (s₁.setTop (mkF m 4 #[.val (.ref a2_0), .val (.ref a2_1)] [(.ref a2_1), (.int (0 : Int32)), (.ref a2_1), (.ref a2_0)])) _
    refine X0.arraylength hx (by rw [e0]; exact Ar1.1) (State.isArrayOf_alike hZ_2.alike Ar1.2.1) (g := (mkF m 4 #[.val (.ref a2_0), .val (.ref a2_1)] [(.ref a2_1), (.int (0 : Int32)), (.ref a2_1), (.ref a2_0)])) rfl rfl (hb hby d2_4) _ ?_
    rw [len_of Sz1 Nn1]
    show Steps p.tables e below (s₁.setTop (mkF m 5 #[.val (.ref a2_0), .val (.ref a2_1)] [(.int (0 : Int32)), (.int (0 : Int32)), (.ref a2_1), (.ref a2_0)])) _
    refine XS.aconstNull X0.here hx rfl (hb hby d2_5) ?_
    show Steps p.tables e below (s₁.setTop (mkF m 6 #[.val (.ref a2_0), .val (.ref a2_1)] [.null, (.int (0 : Int32)), (.int (0 : Int32)), (.ref a2_1), (.ref a2_0)])) _
    refine st2.trans ?_
    exact k
  obtain ⟨fs, hr, hrun, hended, hE1, hE2, hE3, hE4⟩ := X2.leaveW hS hk (v := none) (fun _ => rfl)
  have hCE := hCR.trans (CHv.at X2 hZ hEL hCR.1)
  refine ⟨_, _, k4 _ ?_, hrun, hended, _, _, rfl, ?_, (by show CHr Z consts_1 s.vm s.heap T2.vm T2.heap; rw [hh]; exact hCE), ⟨_, rfl⟩, hE2, hE3, hE4.mono (by decide) (by decide)⟩
  · exact X2.returnOut hx Bd.returns (hb hby d2_9) hr
  · show Q2 Z a2_0 a2_1 kk h0 n0 _ T2.heap _
    exact ⟨d1_2, kv1_2, rfl, N2, K2, G2_0, G2_1, G2_2, G2_3⟩
def own_mk (len a b c : Int32) : List Int32 := if len = (0 : Int32) then [] else if len = (1 : Int32) then [a] else if len = (2 : Int32) then [a, b] else [a, b, c]
theorem own_mkr {len a b c : Int32} (ha : ¬ a < 0 ∧ ¬ (255 : Int32) < a) (hb : ¬ b < 0 ∧ ¬ (255 : Int32) < b) (hc : ¬ c < 0 ∧ ¬ (255 : Int32) < c) : ∀ x ∈ own_mk len a b c, ¬ x < 0 ∧ ¬ (255 : Int32) < x := by
  unfold own_mk
  repeat' split
  · exact own_al0
  · exact own_alS ha own_al0
  · exact own_alS ha (own_alS hb own_al0)
  · exact own_alS ha (own_alS hb (own_alS hc own_al0))
theorem own_mkl {len a b c : Int32} : (own_mk len a b c).length ≤ 4000 := by
  unfold own_mk
  repeat' split
  all_goals exact Nat.le_of_ble_eq_true rfl
theorem pn_1 : plainName "com/example/oyster/oyster/engine/TokenIsSymbolPinLaw" = true := by first | (simp [plainName, overriddenIn]; done) | decide +kernel
theorem pd_1 : parseMethodDescriptor "([C)V" = some ⟨[(.array .char)], none⟩ := by decide +kernel
theorem d3_0 : decode method_2_code 0 = .ok (.iload_n 0, 1) := by decide +kernel
theorem d3_1 : decode method_2_code 1 = .ok (.ifCond .ne 14, 3) := by decide +kernel
theorem d3_4 : decode method_2_code 4 = .ok (.new 7, 3) := by decide +kernel
theorem d3_7 : decode method_2_code 7 = .ok (.dup, 1) := by decide +kernel
theorem d3_8 : decode method_2_code 8 = .ok (.iconst 0, 1) := by decide +kernel
theorem d3_9 : decode method_2_code 9 = .ok (.newarray .char, 2) := by decide +kernel
theorem d3_11 : decode method_2_code 11 = .ok (.invokespecial 9, 3) := by decide +kernel
theorem d3_14 : decode method_2_code 14 = .ok (.areturn, 1) := by decide +kernel
theorem d3_15 : decode method_2_code 15 = .ok (.iload_n 0, 1) := by decide +kernel
theorem d3_16 : decode method_2_code 16 = .ok (.iconst 1, 1) := by decide +kernel
theorem d3_17 : decode method_2_code 17 = .ok (.if_icmp .ne 18, 3) := by decide +kernel
theorem d3_20 : decode method_2_code 20 = .ok (.new 7, 3) := by decide +kernel
theorem d3_23 : decode method_2_code 23 = .ok (.dup, 1) := by decide +kernel
theorem d3_24 : decode method_2_code 24 = .ok (.iconst 1, 1) := by decide +kernel
theorem d3_25 : decode method_2_code 25 = .ok (.newarray .char, 2) := by decide +kernel
theorem d3_27 : decode method_2_code 27 = .ok (.dup, 1) := by decide +kernel
theorem d3_28 : decode method_2_code 28 = .ok (.iconst 0, 1) := by decide +kernel
theorem d3_29 : decode method_2_code 29 = .ok (.iload_n 1, 1) := by decide +kernel
theorem d3_30 : decode method_2_code 30 = .ok (.castore, 1) := by decide +kernel
theorem d3_31 : decode method_2_code 31 = .ok (.invokespecial 9, 3) := by decide +kernel
theorem d3_34 : decode method_2_code 34 = .ok (.areturn, 1) := by decide +kernel
theorem d3_35 : decode method_2_code 35 = .ok (.iload_n 0, 1) := by decide +kernel
theorem d3_36 : decode method_2_code 36 = .ok (.iconst 2, 1) := by decide +kernel
theorem d3_37 : decode method_2_code 37 = .ok (.if_icmp .ne 22, 3) := by decide +kernel
theorem d3_40 : decode method_2_code 40 = .ok (.new 7, 3) := by decide +kernel
theorem d3_43 : decode method_2_code 43 = .ok (.dup, 1) := by decide +kernel
theorem d3_44 : decode method_2_code 44 = .ok (.iconst 2, 1) := by decide +kernel
theorem d3_45 : decode method_2_code 45 = .ok (.newarray .char, 2) := by decide +kernel
theorem d3_47 : decode method_2_code 47 = .ok (.dup, 1) := by decide +kernel
theorem d3_48 : decode method_2_code 48 = .ok (.iconst 0, 1) := by decide +kernel
theorem d3_49 : decode method_2_code 49 = .ok (.iload_n 1, 1) := by decide +kernel
theorem d3_50 : decode method_2_code 50 = .ok (.castore, 1) := by decide +kernel
theorem d3_51 : decode method_2_code 51 = .ok (.dup, 1) := by decide +kernel
theorem d3_52 : decode method_2_code 52 = .ok (.iconst 1, 1) := by decide +kernel
theorem d3_53 : decode method_2_code 53 = .ok (.iload_n 2, 1) := by decide +kernel
theorem d3_54 : decode method_2_code 54 = .ok (.castore, 1) := by decide +kernel
theorem d3_55 : decode method_2_code 55 = .ok (.invokespecial 9, 3) := by decide +kernel
theorem d3_58 : decode method_2_code 58 = .ok (.areturn, 1) := by decide +kernel
theorem d3_59 : decode method_2_code 59 = .ok (.new 7, 3) := by decide +kernel
theorem d3_62 : decode method_2_code 62 = .ok (.dup, 1) := by decide +kernel
theorem d3_63 : decode method_2_code 63 = .ok (.iconst 3, 1) := by decide +kernel
theorem d3_64 : decode method_2_code 64 = .ok (.newarray .char, 2) := by decide +kernel
theorem d3_66 : decode method_2_code 66 = .ok (.dup, 1) := by decide +kernel
theorem d3_67 : decode method_2_code 67 = .ok (.iconst 0, 1) := by decide +kernel
theorem d3_68 : decode method_2_code 68 = .ok (.iload_n 1, 1) := by decide +kernel
theorem d3_69 : decode method_2_code 69 = .ok (.castore, 1) := by decide +kernel
theorem d3_70 : decode method_2_code 70 = .ok (.dup, 1) := by decide +kernel
theorem d3_71 : decode method_2_code 71 = .ok (.iconst 1, 1) := by decide +kernel
theorem d3_72 : decode method_2_code 72 = .ok (.iload_n 2, 1) := by decide +kernel
theorem d3_73 : decode method_2_code 73 = .ok (.castore, 1) := by decide +kernel
theorem d3_74 : decode method_2_code 74 = .ok (.dup, 1) := by decide +kernel
theorem d3_75 : decode method_2_code 75 = .ok (.iconst 2, 1) := by decide +kernel
theorem d3_76 : decode method_2_code 76 = .ok (.iload_n 3, 1) := by decide +kernel
theorem d3_77 : decode method_2_code 77 = .ok (.castore, 1) := by decide +kernel
theorem d3_78 : decode method_2_code 78 = .ok (.invokespecial 9, 3) := by decide +kernel
theorem d3_81 : decode method_2_code 81 = .ok (.areturn, 1) := by decide +kernel
theorem ef_3 (m : MethodId) (p3_0 : Int32) (p3_1 : Int32) (p3_2 : Int32) (p3_3 : Int32) : entryFrame m #[(.int p3_0), (.int p3_1), (.int p3_2), (.int p3_3)] 4 = mkF m 0 #[.val (.int p3_0), .val (.int p3_1), .val (.int p3_2), .val (.int p3_3)] [] := by first | (simp [entryFrame, mkF, argsToLocals, Value.category]; done) | rfl
def Q3 (Z : State) (p3_0 : Int32) (p3_1 : Int32) (p3_2 : Int32) (p3_3 : Int32) (cs : Int32) (h0 : Heap) (n0 : Nat) (v : Option Value) (h : Heap) (L : List Loc) : Prop := ∃ x3 : Addr, ∃ d3 : Nat, ∃ kv3 : ClassId, v = some (.ref x3) ∧ Fr n0 L ∧ Keep h0 h [] ∧ n0 ≤ x3 ∧ h0.size ≤ x3 ∧ Exa Z h x3 "java/lang/String" ∧ Fld Z h x3 "java/lang/String" "value" "[B" (.ref d3) ∧ Fld Z h x3 "java/lang/String" "coder" "B" (.int (0 : Int32)) ∧ Arv Z h d3 kv3 .byte (Int32.ofNat (own_mk p3_0 p3_1 p3_2 p3_3).length) (List.map Value.int (List.map (fun c => c.toInt8.toInt32) (own_mk p3_0 p3_1 p3_2 p3_3))) (.int (0 : Int32))
set_option maxRecDepth 65536 in
set_option maxHeartbeats 40000000 in
theorem rm3 (l : Launch) (Z : State) (a0 : Array Value) (hw : ∀ d ∈ tables_1, d.before a0 Z = true) (ws : List Jvm.Cond) (hEL : EW Z a0 consts_1) (wS : ∀ a ∈ Bundle.stringAtoms, a.before a0 Z = true) (p3_0 : Int32) (p3_1 : Int32) (p3_2 : Int32) (p3_3 : Int32) (cs : Int32) (h0 : Heap) (n0 : Nat) (Z0 : n0 ≤ h0.size) (Sc : Sta Z h0 "java/lang/String" "COMPACT_STRINGS" "Z" (.int cs)) (hcs : ¬ (cs = (0 : Int32))) (l_p3_1 : ¬ (p3_1 < (0 : Int32))) (u_p3_1 : ¬ ((255 : Int32) < p3_1)) (l_p3_2 : ¬ (p3_2 < (0 : Int32))) (u_p3_2 : ¬ ((255 : Int32) < p3_2)) (l_p3_3 : ¬ (p3_3 < (0 : Int32))) (u_p3_3 : ¬ ((255 : Int32) < p3_3)) :
    MetFree l (⟨"com/example/oyster/oyster/engine/TokenIsSymbolPinLaw", "make", "(ICCC)Ljava/lang/String;"⟩ : MethodName) (head1 (Jvm.Cond.code (⟨"com/example/oyster/oyster/engine/TokenIsSymbolPinLaw", "make", "(ICCC)Ljava/lang/String;"⟩ : MethodName) method_2_code 4 (some (.object "java/lang/String")) :: ws) ({ frames := 4, cells := 6, slots := 12, locals := 66 } : Room)) (fun a U => a = #[(.int p3_0), (.int p3_1), (.int p3_2), (.int p3_3)] ∧ Z.Warmed39 U.vm ∧ U.heap = h0 ∧ CHv Z consts_1 U.vm h0) (fun _ _ _ _ _ => True) (fun _ U o U' => ∃ v L, o = .returned v ∧ Q3 Z p3_0 p3_1 p3_2 p3_3 cs h0 n0 v U'.heap L ∧ CHr Z consts_1 U.vm U.heap U'.vm U'.heap ∧ ReturnedEndW U o U' L ({ frames := 4, cells := 6, slots := 12, locals := 66 } : Room).cells ({ frames := 4, cells := 6, slots := 12, locals := 66 } : Room).slots) := by
  refine MetFree.of_bodySF (plainFor_of_name pn_1) hisR ?_
  intro p e s m args below meth c s₁ Bd hml0 hP hK
  obtain ⟨rfl, hZ, hh, hCH⟩ := hP
  have hx := Bd.exec
  have hby := Bd.bytes
  have hml : c.maxLocals = 4 := hml0
  have hown : s.vm.findClass "com/example/oyster/oyster/engine/TokenIsSymbolPinLaw" = some m.cls := findClass_of_methodNamed Bd.named
  have hnm := (name_of_methodNamed Bd.named Bd.method).1
  have X0 : Stand p l e ({ frames := 4, cells := 6, slots := 12, locals := 66 } : Room) (s.setVm s.vm) m #[(.int p3_0), (.int p3_1), (.int p3_2), (.int p3_3)] below meth c s₁ [] 0 0 := Stand.of_body Bd
  have e0 : s₁.heap = h0 := by rw [← hh, Bd.state]; rfl
  have N0 := Fr.nil n0
  have hS : s.Since s.vm h0.size := (State.WarmedH.refl s).since _
  have hk : h0.size ≤ h0.size := Nat.le_refl _
  have hCR : CHr Z consts_1 s.vm h0 s.vm h0 := CHr.refl hCH
  have pre0 : ∀ t, Steps p.tables e below (s₁.setTop (mkF m 0 #[.val (.int p3_0), .val (.int p3_1), .val (.int p3_2), .val (.int p3_3)] [])) t → Steps p.tables e below (s₁.setTop (entryFrame m #[(.int p3_0), (.int p3_1), (.int p3_2), (.int p3_3)] 4)) t := fun t k => castTop (ef_3 m p3_0 p3_1 p3_2 p3_3) k
  have k1 : ∀ t, Steps p.tables e below (s₁.setTop (mkF m 1 #[.val (.int p3_0), .val (.int p3_1), .val (.int p3_2), .val (.int p3_3)] [(.int p3_0)])) t → Steps p.tables e below (s₁.setTop (entryFrame m #[(.int p3_0), (.int p3_1), (.int p3_2), (.int p3_3)] 4)) t := by
    intro t k
    refine pre0 t ?_
    show Steps p.tables e below (s₁.setTop (mkF m 0 #[.val (.int p3_0), .val (.int p3_1), .val (.int p3_2), .val (.int p3_3)] [])) _
    refine XS.iloadN X0.here hx rfl (hb hby d3_0) rfl ?_
    exact k
  by_cases hc1_2 : p3_0 = (0 : Int32)
  · skip
    obtain ⟨b3, g3⟩ : ∃ z, z = h0.size := ⟨_, rfl⟩
    obtain ⟨T3, h3, X3, e3, E3, A3, D3, -, st3⟩ := newO X0 hx hZ hown (hw _ (List.mem_of_getElem? (i := 8) rfl)) (hw _ (List.mem_of_getElem? (i := 9) rfl)) (hw _ (List.mem_of_getElem? (i := 10) rfl)) e0 (g := (mkF m 4 #[.val (.int p3_0), .val (.int p3_1), .val (.int p3_2), .val (.int p3_3)] [])) rfl (hb hby d3_4) (by decide) (by decide)
    rw [← g3] at A3 D3 st3
    have sfn3 := Safe.new (Z := Z) (EL := consts_1) (vm := s.vm) (Nat.le_of_eq g3.symm)
    have sf4 := Safe.ext E3 hCR.1 sfn3
    have hCR := hCR.trans (CHr.ext E3 hCR.1)
    have hk := Nat.le_trans hk E3.1
    have gg3 : n0 ≤ b3 := Nat.le_trans Z0 (Nat.le_of_eq g3.symm)
    have sz3 : h0.size ≤ b3 := Nat.le_trans (Keep.refl h0 []).1 (Nat.le_of_eq g3.symm)
    have Zs3 : n0 ≤ h3.size := Nat.le_trans Z0 E3.1
    have K3 : Keep h0 h3 [] := (Keep.refl h0 []).ext E3
    have F5 : Sta Z h3 "java/lang/String" "COMPACT_STRINGS" "Z" (.int cs) := Sc.ext E3
    have F6 : Fld Z h3 b3 "java/lang/String" "coder" "B" (.int (0 : Int32)) := D3 (Or.inr (hw _ (List.mem_of_getElem? (i := 35) rfl))) (ty := .byte) (by decide)
    have F7 : Fld Z h3 b3 "java/lang/String" "value" "[B" .null := D3 (Or.inr (hw _ (List.mem_of_getElem? (i := 37) rfl))) (ty := (.array .byte)) (by decide)
    obtain ⟨b8, g8⟩ : ∃ z, z = h3.size := ⟨_, rfl⟩
    obtain ⟨T8, h8, k8, X8, e8, E8, A8, st8⟩ := newP X3 hx hZ (hw _ (List.mem_of_getElem? (i := 11) rfl)) e3 (g := (mkF m 9 #[.val (.int p3_0), .val (.int p3_1), .val (.int p3_2), .val (.int p3_3)] [(.int (0 : Int32)), (.ref b3), (.ref b3)])) rfl (hb hby d3_9) rfl (by decide) (cap := 0) (by decide) (by decide) (by decide) (by decide)
    rw [← g8] at A8 st8
    have ne9 : b3 ≠ b8 := Nat.ne_of_lt (Nat.lt_of_lt_of_le A3.lt (Nat.le_of_eq g8.symm))
    have sfn8 := Safe.new (Z := Z) (EL := consts_1) (vm := s.vm) (Nat.le_of_eq g8.symm)
    have sf10 := Safe.ext E8 hCR.1 sf4
    have sf11 := Safe.ext E8 hCR.1 sfn8
    have hCR := hCR.trans (CHr.ext E8 hCR.1)
    have hk := Nat.le_trans hk E8.1
    have gg8 : n0 ≤ b8 := Nat.le_trans Zs3 (Nat.le_of_eq g8.symm)
    have sz8 : h0.size ≤ b8 := Nat.le_trans K3.1 (Nat.le_of_eq g8.symm)
    have Zs8 : n0 ≤ h8.size := Nat.le_trans Zs3 E8.1
    have K8 : Keep h0 h8 [] := K3.ext E8
    have F12 : Sta Z h8 "java/lang/String" "COMPACT_STRINGS" "Z" (.int cs) := F5.ext E8
    have F13 : Exa Z h8 b3 "java/lang/String" := A3.ext E8
    have F14 : Fld Z h8 b3 "java/lang/String" "coder" "B" (.int (0 : Int32)) := F6.ext E8
    have F15 : Fld Z h8 b3 "java/lang/String" "value" "[B" .null := F7.ext E8
    have V8 : Arv Z h8 b8 k8 .char (0 : Int32) [] (.int (0 : Int32)) := Arv.new A8 (by decide)
    obtain ⟨_, _, ⟨T16, L16, k16, n16⟩, -, X16, hS2, hg2, ⟨Lc16, hQ16, l16, y16, z16, hC16⟩, st16⟩ := X8.specialBackS hx (y := (⟨"java/lang/String", "<init>", "([C)V"⟩ : MethodName)) rfl hown (mvT hZ (hw _ (List.mem_of_getElem? (i := 12) rfl))) (mvT hZ (hw _ (List.mem_of_getElem? (i := 13) rfl))) (mvT hZ (hw _ (List.mem_of_getElem? (i := 14) rfl))) (by decide) (backOfSH (W := 1) (rm2 l Z a0 hw [] hEL wS b3 b8 k8 h8 n0 Zs8 F13 F15 F14 V8 gg3) hZ (hw _ (List.mem_of_getElem? (i := 14) rfl)) (hw _ (List.mem_of_getElem? (i := 10) rfl)) (by decide) (by decide) hEL hCR.1) (g := (mkF m 11 #[.val (.int p3_0), .val (.int p3_1), .val (.int p3_2), .val (.int p3_3)] [(.ref b8), (.ref b3), (.ref b3)])) rfl (by rw [hml]; rfl) (Steps.refl _) (a := b3) (argsL := [(.ref b8)]) (rest := [(.ref b3)]) (lenOf pd_1 rfl) rfl (by show 2 * 0 + _ ≤ _; exact Nat.le_of_eq rfl) (hb hby d3_11) (fun _ _ => ⟨rfl, e8, (by decide : 2 + 4 ≤ _), (by decide : 4 + 8 ≤ _)⟩)
    dsimp only [Pt.U, Pt.locs, Pt.cells, Pt.slots] at X16 hS2 hg2 hC16 l16 y16 z16 st16 hQ16
    subst l16 y16 z16
    obtain ⟨X16, hS, hZ, hown⟩ := rebS hS (by rw [e8]; exact hk) X16 hS2 hg2 hZ hown
    have hk := Nat.le_refl T16.heap.size
    have hCR := hCR.trans hC16
    obtain ⟨d2_16, kv2_16, rfl, N16q, Kc16, G16_0, G16_1, G16_2, G16_3⟩ := hQ16
    have Zs16 : n0 ≤ T16.heap.size := Nat.le_trans Zs8 Kc16.1
    have K16 : Keep h0 T16.heap [] := K8.trans Kc16 (allS (Or.inr sz3) all0)
    have sf17 := hC16.safe F13.lt sf10
    have sf18 := hC16.safe V8.lt sf11
    have F19 : Sta Z T16.heap "java/lang/String" "COMPACT_STRINGS" "Z" (.int cs) := own_stakeep F12 Kc16 (allS (own_nsE F13) all0)
    have F20 : Arv Z T16.heap b8 k8 .char (0 : Int32) [] (.int (0 : Int32)) := V8.keep Kc16 (ninS (Ne.symm ne9) nin0)
    have N16 := Fr.app N0 N16q
    have hm : (own_mk p3_0 p3_1 p3_2 p3_3) = ([] : List Int32) := by unfold own_mk; rw [if_pos hc1_2]
    have Vm : Arv Z T16.heap d2_16 kv2_16 .byte (Int32.ofNat ([] : List Int32).length) (List.map Value.int (List.map (fun c => c.toInt8.toInt32) ([] : List Int32))) (.int (0 : Int32)) := G16_3
    rw [← hm] at Vm
    have k21 : ∀ t, Steps p.tables e below (T16.setTop (mkF m 14 #[.val (.int p3_0), .val (.int p3_1), .val (.int p3_2), .val (.int p3_3)] [(.ref b3)])) t → Steps p.tables e below (s₁.setTop (entryFrame m #[(.int p3_0), (.int p3_1), (.int p3_2), (.int p3_3)] 4)) t := by
      intro t k
      refine k1 t ?_
      show Steps p.tables e below (s₁.setTop (mkF m 1 #[.val (.int p3_0), .val (.int p3_1), .val (.int p3_2), .val (.int p3_3)] [(.int p3_0)])) _
      refine XS.ifNo X0.here hx rfl (hb hby d3_1) rfl ((if0 _ _).trans (teq hc1_2).2) ?_
      show Steps p.tables e below (s₁.setTop (mkF m 4 #[.val (.int p3_0), .val (.int p3_1), .val (.int p3_2), .val (.int p3_3)] [])) _
      refine st3 _ ?_
      show Steps p.tables e below (T3.setTop (mkF m 7 #[.val (.int p3_0), .val (.int p3_1), .val (.int p3_2), .val (.int p3_3)] [(.ref b3)])) _
      refine XS.dup X3.here hx rfl (hb hby d3_7) rfl rfl ?_
      show Steps p.tables e below (T3.setTop (mkF m 8 #[.val (.int p3_0), .val (.int p3_1), .val (.int p3_2), .val (.int p3_3)] [(.ref b3), (.ref b3)])) _
      refine XS.iconst X3.here hx rfl (hb hby d3_8) ?_
      show Steps p.tables e below (T3.setTop (mkF m 9 #[.val (.int p3_0), .val (.int p3_1), .val (.int p3_2), .val (.int p3_3)] [(.int (0 : Int32)), (.ref b3), (.ref b3)])) _
      refine st8 _ ?_
      show Steps p.tables e below (T8.setTop (mkF m 11 #[.val (.int p3_0), .val (.int p3_1), .val (.int p3_2), .val (.int p3_3)] [(.ref b8), (.ref b3), (.ref b3)])) _
      refine st16.trans ?_
      exact k
    obtain ⟨fs, hr, hrun, hended, hE1, hE2, hE3, hE4⟩ := X16.leaveW hS hk (v := some (.ref b3)) (fun h => by rw [Bd.returns] at h; cases h)
    have hCE := hCR.trans (CHv.at X16 hZ hEL hCR.1)
    refine ⟨_, _, k21 _ ?_, hrun, hended, _, _, rfl, ?_, (by show CHr Z consts_1 s.vm s.heap T16.vm T16.heap; rw [hh]; exact hCE), ⟨_, rfl⟩, hE2, hE3, hE4.mono (by decide) (by decide)⟩
    · exact retOut X16 hx Bd.returns rfl (Or.inr (Or.inr (Or.inr (Or.inr ⟨rfl, rfl, rfl⟩)))) (hb hby d3_14) hr
    · show Q3 Z p3_0 p3_1 p3_2 p3_3 cs h0 n0 _ T16.heap _
      exact ⟨b3, d2_16, kv2_16, rfl, N16, K16, gg3, sz3, G16_0, G16_1, G16_2, Vm⟩
  · skip
    have k22 : ∀ t, Steps p.tables e below (s₁.setTop (mkF m 17 #[.val (.int p3_0), .val (.int p3_1), .val (.int p3_2), .val (.int p3_3)] [(.int (1 : Int32)), (.int p3_0)])) t → Steps p.tables e below (s₁.setTop (entryFrame m #[(.int p3_0), (.int p3_1), (.int p3_2), (.int p3_3)] 4)) t := by
      intro t k
      refine k1 t ?_
      show Steps p.tables e below (s₁.setTop (mkF m 1 #[.val (.int p3_0), .val (.int p3_1), .val (.int p3_2), .val (.int p3_3)] [(.int p3_0)])) _
      refine XS.ifYes X0.here hx rfl (pc0 := 1) (pc' := 15) rfl (hb hby d3_1) rfl ((if0 _ _).trans (feq hc1_2).2) (by decide) (by decide) ?_
      show Steps p.tables e below (s₁.setTop (mkF m 15 #[.val (.int p3_0), .val (.int p3_1), .val (.int p3_2), .val (.int p3_3)] [])) _
      refine XS.iloadN X0.here hx rfl (hb hby d3_15) rfl ?_
      show Steps p.tables e below (s₁.setTop (mkF m 16 #[.val (.int p3_0), .val (.int p3_1), .val (.int p3_2), .val (.int p3_3)] [(.int p3_0)])) _
      refine XS.iconst X0.here hx rfl (hb hby d3_16) ?_
      exact k
    by_cases hc17_23 : p3_0 = (1 : Int32)
    · skip
      obtain ⟨b24, g24⟩ : ∃ z, z = h0.size := ⟨_, rfl⟩
      obtain ⟨T24, h24, X24, e24, E24, A24, D24, -, st24⟩ := newO X0 hx hZ hown (hw _ (List.mem_of_getElem? (i := 8) rfl)) (hw _ (List.mem_of_getElem? (i := 9) rfl)) (hw _ (List.mem_of_getElem? (i := 10) rfl)) e0 (g := (mkF m 20 #[.val (.int p3_0), .val (.int p3_1), .val (.int p3_2), .val (.int p3_3)] [])) rfl (hb hby d3_20) (by decide) (by decide)
      rw [← g24] at A24 D24 st24
      have sfn24 := Safe.new (Z := Z) (EL := consts_1) (vm := s.vm) (Nat.le_of_eq g24.symm)
      have sf25 := Safe.ext E24 hCR.1 sfn24
      have hCR := hCR.trans (CHr.ext E24 hCR.1)
      have hk := Nat.le_trans hk E24.1
      have gg24 : n0 ≤ b24 := Nat.le_trans Z0 (Nat.le_of_eq g24.symm)
      have sz24 : h0.size ≤ b24 := Nat.le_trans (Keep.refl h0 []).1 (Nat.le_of_eq g24.symm)
      have Zs24 : n0 ≤ h24.size := Nat.le_trans Z0 E24.1
      have K24 : Keep h0 h24 [] := (Keep.refl h0 []).ext E24
      have F26 : Sta Z h24 "java/lang/String" "COMPACT_STRINGS" "Z" (.int cs) := Sc.ext E24
      have F27 : Fld Z h24 b24 "java/lang/String" "coder" "B" (.int (0 : Int32)) := D24 (Or.inr (hw _ (List.mem_of_getElem? (i := 35) rfl))) (ty := .byte) (by decide)
      have F28 : Fld Z h24 b24 "java/lang/String" "value" "[B" .null := D24 (Or.inr (hw _ (List.mem_of_getElem? (i := 37) rfl))) (ty := (.array .byte)) (by decide)
      obtain ⟨b29, g29⟩ : ∃ z, z = h24.size := ⟨_, rfl⟩
      obtain ⟨T29, h29, k29, X29, e29, E29, A29, st29⟩ := newP X24 hx hZ (hw _ (List.mem_of_getElem? (i := 11) rfl)) e24 (g := (mkF m 25 #[.val (.int p3_0), .val (.int p3_1), .val (.int p3_2), .val (.int p3_3)] [(.int (1 : Int32)), (.ref b24), (.ref b24)])) rfl (hb hby d3_25) rfl (by decide) (cap := 1) (by decide) (by decide) (by decide) (by decide)
      rw [← g29] at A29 st29
      have ne30 : b24 ≠ b29 := Nat.ne_of_lt (Nat.lt_of_lt_of_le A24.lt (Nat.le_of_eq g29.symm))
      have sfn29 := Safe.new (Z := Z) (EL := consts_1) (vm := s.vm) (Nat.le_of_eq g29.symm)
      have sf31 := Safe.ext E29 hCR.1 sf25
      have sf32 := Safe.ext E29 hCR.1 sfn29
      have hCR := hCR.trans (CHr.ext E29 hCR.1)
      have hk := Nat.le_trans hk E29.1
      have gg29 : n0 ≤ b29 := Nat.le_trans Zs24 (Nat.le_of_eq g29.symm)
      have sz29 : h0.size ≤ b29 := Nat.le_trans K24.1 (Nat.le_of_eq g29.symm)
      have Zs29 : n0 ≤ h29.size := Nat.le_trans Zs24 E29.1
      have K29 : Keep h0 h29 [] := K24.ext E29
      have F33 : Sta Z h29 "java/lang/String" "COMPACT_STRINGS" "Z" (.int cs) := F26.ext E29
      have F34 : Exa Z h29 b24 "java/lang/String" := A24.ext E29
      have F35 : Fld Z h29 b24 "java/lang/String" "coder" "B" (.int (0 : Int32)) := F27.ext E29
      have F36 : Fld Z h29 b24 "java/lang/String" "value" "[B" .null := F28.ext E29
      have V29 : Arv Z h29 b29 k29 .char (1 : Int32) [(.int (0 : Int32))] (.int (0 : Int32)) := (Arv.new A29 (by decide)).pad (pad_rep [] (.int (0 : Int32)) 1)
      obtain ⟨cl37, Ar37, qc37, Sz37, Nn37, Hh37, Gg37⟩ := (id V29)
      have hin37 : ¬ ((0 : Int32) < 0 ∨ cl37.slots.size ≤ ((0 : Int32)).toNatClampNeg) := inb_of Sz37 ⟨by decide, by decide⟩
      obtain ⟨T37, h37, X37, e37, W37, st37⟩ := stC X29 hx hZ e29 Ar37 (j := (0 : Int32)) hin37 (g := (mkF m 30 #[.val (.int p3_0), .val (.int p3_1), .val (.int p3_2), .val (.int p3_3)] [(.int p3_1), (.int (0 : Int32)), (.ref b29), (.ref b29), (.ref b24), (.ref b24)])) rfl rfl (hb hby d3_30)
      have sf38 := Safe.wr W37 (Safe.arv hZ.alike V29 (by decide)) hCR.1 sf31
      have sf39 := Safe.wr W37 (Safe.arv hZ.alike V29 (by decide)) hCR.1 sf32
      have hCR := hCR.trans (CHr.wr W37 (Safe.arv hZ.alike V29 (by decide)) hCR.1)
      have hk := Nat.le_trans hk (Nat.le_of_eq W37.size.symm)
      have F40 : Sta Z h37 "java/lang/String" "COMPACT_STRINGS" "Z" (.int cs) := F33.wr W37
      have F41 : Exa Z h37 b24 "java/lang/String" := F34.wr W37
      have F42 : Fld Z h37 b24 "java/lang/String" "coder" "B" (.int (0 : Int32)) := F35.other W37 (Or.inl ne30)
      have F43 : Fld Z h37 b24 "java/lang/String" "value" "[B" .null := F36.other W37 (Or.inl ne30)
      have V37 : Arv Z h37 b29 k29 .char (1 : Int32) [(.int (nar .char p3_1))] (.int (0 : Int32)) := Arv.set Ar37 qc37 Sz37 Nn37 Hh37 Gg37 (fits_nar_char _) W37 0 rfl (Nat.le_of_ble_eq_true rfl)
      rw [show nar .char p3_1 = p3_1 from own_narC _ ⟨l_p3_1, u_p3_1⟩] at V37
      have N37 := Fr.snoc X37 N0 gg29
      have K37 : Keep h0 h37 [] := K29.wr W37 (Or.inr sz29)
      have Zs37 : n0 ≤ h37.size := by rw [W37.size]; exact Zs29
      obtain ⟨_, _, ⟨T45, L45, k45, n45⟩, -, X45, ⟨Lc45, hQ45, l45, y45, z45⟩, st45⟩ := X37.specialBack hx (y := (⟨"java/lang/String", "<init>", "([C)V"⟩ : MethodName)) rfl hown (mvT hZ (hw _ (List.mem_of_getElem? (i := 12) rfl))) (mvT hZ (hw _ (List.mem_of_getElem? (i := 13) rfl))) (mvT hZ (hw _ (List.mem_of_getElem? (i := 14) rfl))) (by decide) (StrChars.Road.backV (W := 1) hZ (fun d hd => hw d ((by decide +kernel : ∀ d ∈ StrChars.Road.words, d ∈ tables_1) d hd)) (kI := 4) (hw _ (List.mem_of_getElem? (i := 9) rfl)) (cs := ([p3_1] : List Int32)) (bs := ([p3_1] : List Int32).map (fun c => c.toInt8.toInt32)) (n := 1) gg24 Zs37 F41 F43 F42 V37 F40 hcs rfl rfl (by decide) (by decide) (own_alS ⟨l_p3_1, u_p3_1⟩ own_al0) rfl (by decide) (by decide)) (g := (mkF m 31 #[.val (.int p3_0), .val (.int p3_1), .val (.int p3_2), .val (.int p3_3)] [(.ref b29), (.ref b24), (.ref b24)])) rfl (by rw [hml]; rfl) (Steps.refl _) (a := b24) (argsL := [(.ref b29)]) (rest := [(.ref b24)]) (lenOf pd_1 rfl) rfl (by show 2 * 0 + _ ≤ _; exact Nat.le_of_eq rfl) (hb hby d3_31) (fun _ _ => ⟨rfl, e37, (by decide : 2 + 1 ≤ _), (by decide : 5 + 1 ≤ _)⟩)
      dsimp only [Pt.U, Pt.locs, Pt.cells, Pt.slots] at X45 l45 y45 z45 st45 hQ45
      subst l45 y45 z45
      obtain ⟨rfl, N45q, Kc45, G45_0, G45_1, t45, kb45, ggt45, szt45, nex45, G45_2, G45_3⟩ := hQ45
      have ne46 : b24 ≠ t45 := Nat.ne_of_lt (Nat.lt_of_lt_of_le F41.lt szt45)
      have ne47 : b29 ≠ t45 := Nat.ne_of_lt (Nat.lt_of_lt_of_le V37.lt szt45)
      have szz45 : h0.size ≤ t45 := Nat.le_trans K37.1 szt45
      have Zs45 : n0 ≤ T45.heap.size := Nat.le_trans Zs37 Kc45.1
      have K45 : Keep h0 T45.heap [] := K37.trans Kc45 (allS (Or.inr sz24) all0)
      have sf48 := Safe.keep Kc45 (sfS sf38 sf0) hCR.1 sf38
      have sf49 := Safe.keep Kc45 (sfS sf38 sf0) hCR.1 sf39
      have hCR := hCR.trans (CHr.keep Kc45 (sfS sf38 sf0) hCR.1)
      have hk := Nat.le_trans hk Kc45.1
      have F50 : Sta Z T45.heap "java/lang/String" "COMPACT_STRINGS" "Z" (.int cs) := own_stakeep F40 Kc45 (allS (own_nsE F41) all0)
      have F51 : Arv Z T45.heap b29 k29 .char (1 : Int32) [(.int p3_1)] (.int (0 : Int32)) := V37.keep Kc45 (ninS (Ne.symm ne30) nin0)
      have N45 := Fr.app N37 N45q
      have hm : (own_mk p3_0 p3_1 p3_2 p3_3) = ([p3_1] : List Int32) := by unfold own_mk; rw [if_neg hc1_2, if_pos hc17_23]
      have Vm : Arv Z T45.heap t45 kb45 .byte (Int32.ofNat ([p3_1] : List Int32).length) (List.map Value.int (List.map (fun c => c.toInt8.toInt32) ([p3_1] : List Int32))) (.int (0 : Int32)) := G45_3
      rw [← hm] at Vm
      have k52 : ∀ t, Steps p.tables e below (T45.setTop (mkF m 34 #[.val (.int p3_0), .val (.int p3_1), .val (.int p3_2), .val (.int p3_3)] [(.ref b24)])) t → Steps p.tables e below (s₁.setTop (entryFrame m #[(.int p3_0), (.int p3_1), (.int p3_2), (.int p3_3)] 4)) t := by
        intro t k
        refine k22 t ?_
        show Steps p.tables e below (s₁.setTop (mkF m 17 #[.val (.int p3_0), .val (.int p3_1), .val (.int p3_2), .val (.int p3_3)] [(.int (1 : Int32)), (.int p3_0)])) _
        refine XS.icmpNo X0.here hx rfl (hb hby d3_17) rfl (teq hc17_23).2 ?_
        show Steps p.tables e below (s₁.setTop (mkF m 20 #[.val (.int p3_0), .val (.int p3_1), .val (.int p3_2), .val (.int p3_3)] [])) _
        refine st24 _ ?_
        show Steps p.tables e below (T24.setTop (mkF m 23 #[.val (.int p3_0), .val (.int p3_1), .val (.int p3_2), .val (.int p3_3)] [(.ref b24)])) _
        refine XS.dup X24.here hx rfl (hb hby d3_23) rfl rfl ?_
        show Steps p.tables e below (T24.setTop (mkF m 24 #[.val (.int p3_0), .val (.int p3_1), .val (.int p3_2), .val (.int p3_3)] [(.ref b24), (.ref b24)])) _
        refine XS.iconst X24.here hx rfl (hb hby d3_24) ?_
        show Steps p.tables e below (T24.setTop (mkF m 25 #[.val (.int p3_0), .val (.int p3_1), .val (.int p3_2), .val (.int p3_3)] [(.int (1 : Int32)), (.ref b24), (.ref b24)])) _
        refine st29 _ ?_
        show Steps p.tables e below (T29.setTop (mkF m 27 #[.val (.int p3_0), .val (.int p3_1), .val (.int p3_2), .val (.int p3_3)] [(.ref b29), (.ref b24), (.ref b24)])) _
        refine XS.dup X29.here hx rfl (hb hby d3_27) rfl rfl ?_
        show Steps p.tables e below (T29.setTop (mkF m 28 #[.val (.int p3_0), .val (.int p3_1), .val (.int p3_2), .val (.int p3_3)] [(.ref b29), (.ref b29), (.ref b24), (.ref b24)])) _
        refine XS.iconst X29.here hx rfl (hb hby d3_28) ?_
        show Steps p.tables e below (T29.setTop (mkF m 29 #[.val (.int p3_0), .val (.int p3_1), .val (.int p3_2), .val (.int p3_3)] [(.int (0 : Int32)), (.ref b29), (.ref b29), (.ref b24), (.ref b24)])) _
        refine XS.iloadN X29.here hx rfl (hb hby d3_29) rfl ?_
        show Steps p.tables e below (T29.setTop (mkF m 30 #[.val (.int p3_0), .val (.int p3_1), .val (.int p3_2), .val (.int p3_3)] [(.int p3_1), (.int (0 : Int32)), (.ref b29), (.ref b29), (.ref b24), (.ref b24)])) _
        refine st37 _ ?_
        show Steps p.tables e below (T37.setTop (mkF m 31 #[.val (.int p3_0), .val (.int p3_1), .val (.int p3_2), .val (.int p3_3)] [(.ref b29), (.ref b24), (.ref b24)])) _
        refine st45.trans ?_
        exact k
      obtain ⟨fs, hr, hrun, hended, hE1, hE2, hE3, hE4⟩ := X45.leaveW hS hk (v := some (.ref b24)) (fun h => by rw [Bd.returns] at h; cases h)
      have hCE := hCR.trans (CHv.at X45 hZ hEL hCR.1)
      refine ⟨_, _, k52 _ ?_, hrun, hended, _, _, rfl, ?_, (by show CHr Z consts_1 s.vm s.heap T45.vm T45.heap; rw [hh]; exact hCE), ⟨_, rfl⟩, hE2, hE3, hE4.mono (by decide) (by decide)⟩
      · exact retOut X45 hx Bd.returns rfl (Or.inr (Or.inr (Or.inr (Or.inr ⟨rfl, rfl, rfl⟩)))) (hb hby d3_34) hr
      · show Q3 Z p3_0 p3_1 p3_2 p3_3 cs h0 n0 _ T45.heap _
        exact ⟨b24, t45, kb45, rfl, N45, K45, gg24, sz24, G45_0, G45_2, G45_1, Vm⟩
    · skip
      have k53 : ∀ t, Steps p.tables e below (s₁.setTop (mkF m 37 #[.val (.int p3_0), .val (.int p3_1), .val (.int p3_2), .val (.int p3_3)] [(.int (2 : Int32)), (.int p3_0)])) t → Steps p.tables e below (s₁.setTop (entryFrame m #[(.int p3_0), (.int p3_1), (.int p3_2), (.int p3_3)] 4)) t := by
        intro t k
        refine k22 t ?_
        show Steps p.tables e below (s₁.setTop (mkF m 17 #[.val (.int p3_0), .val (.int p3_1), .val (.int p3_2), .val (.int p3_3)] [(.int (1 : Int32)), (.int p3_0)])) _
        refine XS.icmpYes X0.here hx rfl (pc0 := 17) (pc' := 35) rfl (hb hby d3_17) rfl (feq hc17_23).2 (by decide) (by decide) ?_
        show Steps p.tables e below (s₁.setTop (mkF m 35 #[.val (.int p3_0), .val (.int p3_1), .val (.int p3_2), .val (.int p3_3)] [])) _
        refine XS.iloadN X0.here hx rfl (hb hby d3_35) rfl ?_
        show Steps p.tables e below (s₁.setTop (mkF m 36 #[.val (.int p3_0), .val (.int p3_1), .val (.int p3_2), .val (.int p3_3)] [(.int p3_0)])) _
        refine XS.iconst X0.here hx rfl (hb hby d3_36) ?_
        exact k
      by_cases hc37_54 : p3_0 = (2 : Int32)
      · skip
        obtain ⟨b55, g55⟩ : ∃ z, z = h0.size := ⟨_, rfl⟩
        obtain ⟨T55, h55, X55, e55, E55, A55, D55, -, st55⟩ := newO X0 hx hZ hown (hw _ (List.mem_of_getElem? (i := 8) rfl)) (hw _ (List.mem_of_getElem? (i := 9) rfl)) (hw _ (List.mem_of_getElem? (i := 10) rfl)) e0 (g := (mkF m 40 #[.val (.int p3_0), .val (.int p3_1), .val (.int p3_2), .val (.int p3_3)] [])) rfl (hb hby d3_40) (by decide) (by decide)
        rw [← g55] at A55 D55 st55
        have sfn55 := Safe.new (Z := Z) (EL := consts_1) (vm := s.vm) (Nat.le_of_eq g55.symm)
        have sf56 := Safe.ext E55 hCR.1 sfn55
        have hCR := hCR.trans (CHr.ext E55 hCR.1)
        have hk := Nat.le_trans hk E55.1
        have gg55 : n0 ≤ b55 := Nat.le_trans Z0 (Nat.le_of_eq g55.symm)
        have sz55 : h0.size ≤ b55 := Nat.le_trans (Keep.refl h0 []).1 (Nat.le_of_eq g55.symm)
        have Zs55 : n0 ≤ h55.size := Nat.le_trans Z0 E55.1
        have K55 : Keep h0 h55 [] := (Keep.refl h0 []).ext E55
        have F57 : Sta Z h55 "java/lang/String" "COMPACT_STRINGS" "Z" (.int cs) := Sc.ext E55
        have F58 : Fld Z h55 b55 "java/lang/String" "coder" "B" (.int (0 : Int32)) := D55 (Or.inr (hw _ (List.mem_of_getElem? (i := 35) rfl))) (ty := .byte) (by decide)
        have F59 : Fld Z h55 b55 "java/lang/String" "value" "[B" .null := D55 (Or.inr (hw _ (List.mem_of_getElem? (i := 37) rfl))) (ty := (.array .byte)) (by decide)
        obtain ⟨b60, g60⟩ : ∃ z, z = h55.size := ⟨_, rfl⟩
        obtain ⟨T60, h60, k60, X60, e60, E60, A60, st60⟩ := newP X55 hx hZ (hw _ (List.mem_of_getElem? (i := 11) rfl)) e55 (g := (mkF m 45 #[.val (.int p3_0), .val (.int p3_1), .val (.int p3_2), .val (.int p3_3)] [(.int (2 : Int32)), (.ref b55), (.ref b55)])) rfl (hb hby d3_45) rfl (by decide) (cap := 2) (by decide) (by decide) (by decide) (by decide)
        rw [← g60] at A60 st60
        have ne61 : b55 ≠ b60 := Nat.ne_of_lt (Nat.lt_of_lt_of_le A55.lt (Nat.le_of_eq g60.symm))
        have sfn60 := Safe.new (Z := Z) (EL := consts_1) (vm := s.vm) (Nat.le_of_eq g60.symm)
        have sf62 := Safe.ext E60 hCR.1 sf56
        have sf63 := Safe.ext E60 hCR.1 sfn60
        have hCR := hCR.trans (CHr.ext E60 hCR.1)
        have hk := Nat.le_trans hk E60.1
        have gg60 : n0 ≤ b60 := Nat.le_trans Zs55 (Nat.le_of_eq g60.symm)
        have sz60 : h0.size ≤ b60 := Nat.le_trans K55.1 (Nat.le_of_eq g60.symm)
        have Zs60 : n0 ≤ h60.size := Nat.le_trans Zs55 E60.1
        have K60 : Keep h0 h60 [] := K55.ext E60
        have F64 : Sta Z h60 "java/lang/String" "COMPACT_STRINGS" "Z" (.int cs) := F57.ext E60
        have F65 : Exa Z h60 b55 "java/lang/String" := A55.ext E60
        have F66 : Fld Z h60 b55 "java/lang/String" "coder" "B" (.int (0 : Int32)) := F58.ext E60
        have F67 : Fld Z h60 b55 "java/lang/String" "value" "[B" .null := F59.ext E60
        have V60 : Arv Z h60 b60 k60 .char (2 : Int32) [(.int (0 : Int32)), (.int (0 : Int32))] (.int (0 : Int32)) := (Arv.new A60 (by decide)).pad (pad_rep [] (.int (0 : Int32)) 2)
        obtain ⟨cl68, Ar68, qc68, Sz68, Nn68, Hh68, Gg68⟩ := (id V60)
        have hin68 : ¬ ((0 : Int32) < 0 ∨ cl68.slots.size ≤ ((0 : Int32)).toNatClampNeg) := inb_of Sz68 ⟨by decide, by decide⟩
        obtain ⟨T68, h68, X68, e68, W68, st68⟩ := stC X60 hx hZ e60 Ar68 (j := (0 : Int32)) hin68 (g := (mkF m 50 #[.val (.int p3_0), .val (.int p3_1), .val (.int p3_2), .val (.int p3_3)] [(.int p3_1), (.int (0 : Int32)), (.ref b60), (.ref b60), (.ref b55), (.ref b55)])) rfl rfl (hb hby d3_50)
        have sf69 := Safe.wr W68 (Safe.arv hZ.alike V60 (by decide)) hCR.1 sf62
        have sf70 := Safe.wr W68 (Safe.arv hZ.alike V60 (by decide)) hCR.1 sf63
        have hCR := hCR.trans (CHr.wr W68 (Safe.arv hZ.alike V60 (by decide)) hCR.1)
        have hk := Nat.le_trans hk (Nat.le_of_eq W68.size.symm)
        have F71 : Sta Z h68 "java/lang/String" "COMPACT_STRINGS" "Z" (.int cs) := F64.wr W68
        have F72 : Exa Z h68 b55 "java/lang/String" := F65.wr W68
        have F73 : Fld Z h68 b55 "java/lang/String" "coder" "B" (.int (0 : Int32)) := F66.other W68 (Or.inl ne61)
        have F74 : Fld Z h68 b55 "java/lang/String" "value" "[B" .null := F67.other W68 (Or.inl ne61)
        have V68 : Arv Z h68 b60 k60 .char (2 : Int32) [(.int (nar .char p3_1)), (.int (0 : Int32))] (.int (0 : Int32)) := Arv.set Ar68 qc68 Sz68 Nn68 Hh68 Gg68 (fits_nar_char _) W68 0 rfl (Nat.le_of_ble_eq_true rfl)
        rw [show nar .char p3_1 = p3_1 from own_narC _ ⟨l_p3_1, u_p3_1⟩] at V68
        have N68 := Fr.snoc X68 N0 gg60
        have K68 : Keep h0 h68 [] := K60.wr W68 (Or.inr sz60)
        have Zs68 : n0 ≤ h68.size := by rw [W68.size]; exact Zs60
        obtain ⟨cl76, Ar76, qc76, Sz76, Nn76, Hh76, Gg76⟩ := (id V68)
        have hin76 : ¬ ((1 : Int32) < 0 ∨ cl76.slots.size ≤ ((1 : Int32)).toNatClampNeg) := inb_of Sz76 ⟨by decide, by decide⟩
        obtain ⟨T76, h76, X76, e76, W76, st76⟩ := stC X68 hx hZ e68 Ar76 (j := (1 : Int32)) hin76 (g := (mkF m 54 #[.val (.int p3_0), .val (.int p3_1), .val (.int p3_2), .val (.int p3_3)] [(.int p3_2), (.int (1 : Int32)), (.ref b60), (.ref b60), (.ref b55), (.ref b55)])) rfl rfl (hb hby d3_54)
        have sf77 := Safe.wr W76 (Safe.arv hZ.alike V68 (by decide)) hCR.1 sf69
        have sf78 := Safe.wr W76 (Safe.arv hZ.alike V68 (by decide)) hCR.1 sf70
        have hCR := hCR.trans (CHr.wr W76 (Safe.arv hZ.alike V68 (by decide)) hCR.1)
        have hk := Nat.le_trans hk (Nat.le_of_eq W76.size.symm)
        have F79 : Sta Z h76 "java/lang/String" "COMPACT_STRINGS" "Z" (.int cs) := F71.wr W76
        have F80 : Exa Z h76 b55 "java/lang/String" := F72.wr W76
        have F81 : Fld Z h76 b55 "java/lang/String" "coder" "B" (.int (0 : Int32)) := F73.other W76 (Or.inl ne61)
        have F82 : Fld Z h76 b55 "java/lang/String" "value" "[B" .null := F74.other W76 (Or.inl ne61)
        have V76 : Arv Z h76 b60 k60 .char (2 : Int32) [(.int p3_1), (.int (nar .char p3_2))] (.int (0 : Int32)) := Arv.set Ar76 qc76 Sz76 Nn76 Hh76 Gg76 (fits_nar_char _) W76 1 rfl (Nat.le_of_ble_eq_true rfl)
        rw [show nar .char p3_2 = p3_2 from own_narC _ ⟨l_p3_2, u_p3_2⟩] at V76
        have N76 := Fr.snoc X76 N68 gg60
        have K76 : Keep h0 h76 [] := K68.wr W76 (Or.inr sz60)
        have Zs76 : n0 ≤ h76.size := by rw [W76.size]; exact Zs68
        obtain ⟨_, _, ⟨T84, L84, k84, n84⟩, -, X84, ⟨Lc84, hQ84, l84, y84, z84⟩, st84⟩ := X76.specialBack hx (y := (⟨"java/lang/String", "<init>", "([C)V"⟩ : MethodName)) rfl hown (mvT hZ (hw _ (List.mem_of_getElem? (i := 12) rfl))) (mvT hZ (hw _ (List.mem_of_getElem? (i := 13) rfl))) (mvT hZ (hw _ (List.mem_of_getElem? (i := 14) rfl))) (by decide) (StrChars.Road.backV (W := 1) hZ (fun d hd => hw d ((by decide +kernel : ∀ d ∈ StrChars.Road.words, d ∈ tables_1) d hd)) (kI := 4) (hw _ (List.mem_of_getElem? (i := 9) rfl)) (cs := ([p3_1, p3_2] : List Int32)) (bs := ([p3_1, p3_2] : List Int32).map (fun c => c.toInt8.toInt32)) (n := 2) gg55 Zs76 F80 F82 F81 V76 F79 hcs rfl rfl (by decide) (by decide) (own_alS ⟨l_p3_1, u_p3_1⟩ (own_alS ⟨l_p3_2, u_p3_2⟩ own_al0)) rfl (by decide) (by decide)) (g := (mkF m 55 #[.val (.int p3_0), .val (.int p3_1), .val (.int p3_2), .val (.int p3_3)] [(.ref b60), (.ref b55), (.ref b55)])) rfl (by rw [hml]; rfl) (Steps.refl _) (a := b55) (argsL := [(.ref b60)]) (rest := [(.ref b55)]) (lenOf pd_1 rfl) rfl (by show 2 * 0 + _ ≤ _; exact Nat.le_of_eq rfl) (hb hby d3_55) (fun _ _ => ⟨rfl, e76, (by decide : 2 + 1 ≤ _), (by decide : 6 + 2 ≤ _)⟩)
        dsimp only [Pt.U, Pt.locs, Pt.cells, Pt.slots] at X84 l84 y84 z84 st84 hQ84
        subst l84 y84 z84
        obtain ⟨rfl, N84q, Kc84, G84_0, G84_1, t84, kb84, ggt84, szt84, nex84, G84_2, G84_3⟩ := hQ84
        have ne85 : b55 ≠ t84 := Nat.ne_of_lt (Nat.lt_of_lt_of_le F80.lt szt84)
        have ne86 : b60 ≠ t84 := Nat.ne_of_lt (Nat.lt_of_lt_of_le V76.lt szt84)
        have szz84 : h0.size ≤ t84 := Nat.le_trans K76.1 szt84
        have Zs84 : n0 ≤ T84.heap.size := Nat.le_trans Zs76 Kc84.1
        have K84 : Keep h0 T84.heap [] := K76.trans Kc84 (allS (Or.inr sz55) all0)
        have sf87 := Safe.keep Kc84 (sfS sf77 sf0) hCR.1 sf77
        have sf88 := Safe.keep Kc84 (sfS sf77 sf0) hCR.1 sf78
        have hCR := hCR.trans (CHr.keep Kc84 (sfS sf77 sf0) hCR.1)
        have hk := Nat.le_trans hk Kc84.1
        have F89 : Sta Z T84.heap "java/lang/String" "COMPACT_STRINGS" "Z" (.int cs) := own_stakeep F79 Kc84 (allS (own_nsE F80) all0)
        have F90 : Arv Z T84.heap b60 k60 .char (2 : Int32) [(.int p3_1), (.int p3_2)] (.int (0 : Int32)) := V76.keep Kc84 (ninS (Ne.symm ne61) nin0)
        have N84 := Fr.app N76 N84q
        have hm : (own_mk p3_0 p3_1 p3_2 p3_3) = ([p3_1, p3_2] : List Int32) := by unfold own_mk; rw [if_neg hc1_2, if_neg hc17_23, if_pos hc37_54]
        have Vm : Arv Z T84.heap t84 kb84 .byte (Int32.ofNat ([p3_1, p3_2] : List Int32).length) (List.map Value.int (List.map (fun c => c.toInt8.toInt32) ([p3_1, p3_2] : List Int32))) (.int (0 : Int32)) := G84_3
        rw [← hm] at Vm
        have k91 : ∀ t, Steps p.tables e below (T84.setTop (mkF m 58 #[.val (.int p3_0), .val (.int p3_1), .val (.int p3_2), .val (.int p3_3)] [(.ref b55)])) t → Steps p.tables e below (s₁.setTop (entryFrame m #[(.int p3_0), (.int p3_1), (.int p3_2), (.int p3_3)] 4)) t := by
          intro t k
          refine k53 t ?_
          show Steps p.tables e below (s₁.setTop (mkF m 37 #[.val (.int p3_0), .val (.int p3_1), .val (.int p3_2), .val (.int p3_3)] [(.int (2 : Int32)), (.int p3_0)])) _
          refine XS.icmpNo X0.here hx rfl (hb hby d3_37) rfl (teq hc37_54).2 ?_
          show Steps p.tables e below (s₁.setTop (mkF m 40 #[.val (.int p3_0), .val (.int p3_1), .val (.int p3_2), .val (.int p3_3)] [])) _
          refine st55 _ ?_
          show Steps p.tables e below (T55.setTop (mkF m 43 #[.val (.int p3_0), .val (.int p3_1), .val (.int p3_2), .val (.int p3_3)] [(.ref b55)])) _
          refine XS.dup X55.here hx rfl (hb hby d3_43) rfl rfl ?_
          show Steps p.tables e below (T55.setTop (mkF m 44 #[.val (.int p3_0), .val (.int p3_1), .val (.int p3_2), .val (.int p3_3)] [(.ref b55), (.ref b55)])) _
          refine XS.iconst X55.here hx rfl (hb hby d3_44) ?_
          show Steps p.tables e below (T55.setTop (mkF m 45 #[.val (.int p3_0), .val (.int p3_1), .val (.int p3_2), .val (.int p3_3)] [(.int (2 : Int32)), (.ref b55), (.ref b55)])) _
          refine st60 _ ?_
          show Steps p.tables e below (T60.setTop (mkF m 47 #[.val (.int p3_0), .val (.int p3_1), .val (.int p3_2), .val (.int p3_3)] [(.ref b60), (.ref b55), (.ref b55)])) _
          refine XS.dup X60.here hx rfl (hb hby d3_47) rfl rfl ?_
          show Steps p.tables e below (T60.setTop (mkF m 48 #[.val (.int p3_0), .val (.int p3_1), .val (.int p3_2), .val (.int p3_3)] [(.ref b60), (.ref b60), (.ref b55), (.ref b55)])) _
          refine XS.iconst X60.here hx rfl (hb hby d3_48) ?_
          show Steps p.tables e below (T60.setTop (mkF m 49 #[.val (.int p3_0), .val (.int p3_1), .val (.int p3_2), .val (.int p3_3)] [(.int (0 : Int32)), (.ref b60), (.ref b60), (.ref b55), (.ref b55)])) _
          refine XS.iloadN X60.here hx rfl (hb hby d3_49) rfl ?_
          show Steps p.tables e below (T60.setTop (mkF m 50 #[.val (.int p3_0), .val (.int p3_1), .val (.int p3_2), .val (.int p3_3)] [(.int p3_1), (.int (0 : Int32)), (.ref b60), (.ref b60), (.ref b55), (.ref b55)])) _
          refine st68 _ ?_
          show Steps p.tables e below (T68.setTop (mkF m 51 #[.val (.int p3_0), .val (.int p3_1), .val (.int p3_2), .val (.int p3_3)] [(.ref b60), (.ref b55), (.ref b55)])) _
          refine XS.dup X68.here hx rfl (hb hby d3_51) rfl rfl ?_
          show Steps p.tables e below (T68.setTop (mkF m 52 #[.val (.int p3_0), .val (.int p3_1), .val (.int p3_2), .val (.int p3_3)] [(.ref b60), (.ref b60), (.ref b55), (.ref b55)])) _
          refine XS.iconst X68.here hx rfl (hb hby d3_52) ?_
          show Steps p.tables e below (T68.setTop (mkF m 53 #[.val (.int p3_0), .val (.int p3_1), .val (.int p3_2), .val (.int p3_3)] [(.int (1 : Int32)), (.ref b60), (.ref b60), (.ref b55), (.ref b55)])) _
          refine XS.iloadN X68.here hx rfl (hb hby d3_53) rfl ?_
          show Steps p.tables e below (T68.setTop (mkF m 54 #[.val (.int p3_0), .val (.int p3_1), .val (.int p3_2), .val (.int p3_3)] [(.int p3_2), (.int (1 : Int32)), (.ref b60), (.ref b60), (.ref b55), (.ref b55)])) _
          refine st76 _ ?_
          show Steps p.tables e below (T76.setTop (mkF m 55 #[.val (.int p3_0), .val (.int p3_1), .val (.int p3_2), .val (.int p3_3)] [(.ref b60), (.ref b55), (.ref b55)])) _
          refine st84.trans ?_
          exact k
        obtain ⟨fs, hr, hrun, hended, hE1, hE2, hE3, hE4⟩ := X84.leaveW hS hk (v := some (.ref b55)) (fun h => by rw [Bd.returns] at h; cases h)
        have hCE := hCR.trans (CHv.at X84 hZ hEL hCR.1)
        refine ⟨_, _, k91 _ ?_, hrun, hended, _, _, rfl, ?_, (by show CHr Z consts_1 s.vm s.heap T84.vm T84.heap; rw [hh]; exact hCE), ⟨_, rfl⟩, hE2, hE3, hE4.mono (by decide) (by decide)⟩
        · exact retOut X84 hx Bd.returns rfl (Or.inr (Or.inr (Or.inr (Or.inr ⟨rfl, rfl, rfl⟩)))) (hb hby d3_58) hr
        · show Q3 Z p3_0 p3_1 p3_2 p3_3 cs h0 n0 _ T84.heap _
          exact ⟨b55, t84, kb84, rfl, N84, K84, gg55, sz55, G84_0, G84_2, G84_1, Vm⟩
      · skip
        obtain ⟨b92, g92⟩ : ∃ z, z = h0.size := ⟨_, rfl⟩
        obtain ⟨T92, h92, X92, e92, E92, A92, D92, -, st92⟩ := newO X0 hx hZ hown (hw _ (List.mem_of_getElem? (i := 8) rfl)) (hw _ (List.mem_of_getElem? (i := 9) rfl)) (hw _ (List.mem_of_getElem? (i := 10) rfl)) e0 (g := (mkF m 59 #[.val (.int p3_0), .val (.int p3_1), .val (.int p3_2), .val (.int p3_3)] [])) rfl (hb hby d3_59) (by decide) (by decide)
        rw [← g92] at A92 D92 st92
        have sfn92 := Safe.new (Z := Z) (EL := consts_1) (vm := s.vm) (Nat.le_of_eq g92.symm)
        have sf93 := Safe.ext E92 hCR.1 sfn92
        have hCR := hCR.trans (CHr.ext E92 hCR.1)
        have hk := Nat.le_trans hk E92.1
        have gg92 : n0 ≤ b92 := Nat.le_trans Z0 (Nat.le_of_eq g92.symm)
        have sz92 : h0.size ≤ b92 := Nat.le_trans (Keep.refl h0 []).1 (Nat.le_of_eq g92.symm)
        have Zs92 : n0 ≤ h92.size := Nat.le_trans Z0 E92.1
        have K92 : Keep h0 h92 [] := (Keep.refl h0 []).ext E92
        have F94 : Sta Z h92 "java/lang/String" "COMPACT_STRINGS" "Z" (.int cs) := Sc.ext E92
        have F95 : Fld Z h92 b92 "java/lang/String" "coder" "B" (.int (0 : Int32)) := D92 (Or.inr (hw _ (List.mem_of_getElem? (i := 35) rfl))) (ty := .byte) (by decide)
        have F96 : Fld Z h92 b92 "java/lang/String" "value" "[B" .null := D92 (Or.inr (hw _ (List.mem_of_getElem? (i := 37) rfl))) (ty := (.array .byte)) (by decide)
        obtain ⟨b97, g97⟩ : ∃ z, z = h92.size := ⟨_, rfl⟩
        obtain ⟨T97, h97, k97, X97, e97, E97, A97, st97⟩ := newP X92 hx hZ (hw _ (List.mem_of_getElem? (i := 11) rfl)) e92 (g := (mkF m 64 #[.val (.int p3_0), .val (.int p3_1), .val (.int p3_2), .val (.int p3_3)] [(.int (3 : Int32)), (.ref b92), (.ref b92)])) rfl (hb hby d3_64) rfl (by decide) (cap := 3) (by decide) (by decide) (by decide) (by decide)
        rw [← g97] at A97 st97
        have ne98 : b92 ≠ b97 := Nat.ne_of_lt (Nat.lt_of_lt_of_le A92.lt (Nat.le_of_eq g97.symm))
        have sfn97 := Safe.new (Z := Z) (EL := consts_1) (vm := s.vm) (Nat.le_of_eq g97.symm)
        have sf99 := Safe.ext E97 hCR.1 sf93
        have sf100 := Safe.ext E97 hCR.1 sfn97
        have hCR := hCR.trans (CHr.ext E97 hCR.1)
        have hk := Nat.le_trans hk E97.1
        have gg97 : n0 ≤ b97 := Nat.le_trans Zs92 (Nat.le_of_eq g97.symm)
        have sz97 : h0.size ≤ b97 := Nat.le_trans K92.1 (Nat.le_of_eq g97.symm)
        have Zs97 : n0 ≤ h97.size := Nat.le_trans Zs92 E97.1
        have K97 : Keep h0 h97 [] := K92.ext E97
        have F101 : Sta Z h97 "java/lang/String" "COMPACT_STRINGS" "Z" (.int cs) := F94.ext E97
        have F102 : Exa Z h97 b92 "java/lang/String" := A92.ext E97
        have F103 : Fld Z h97 b92 "java/lang/String" "coder" "B" (.int (0 : Int32)) := F95.ext E97
        have F104 : Fld Z h97 b92 "java/lang/String" "value" "[B" .null := F96.ext E97
        have V97 : Arv Z h97 b97 k97 .char (3 : Int32) [(.int (0 : Int32)), (.int (0 : Int32)), (.int (0 : Int32))] (.int (0 : Int32)) := (Arv.new A97 (by decide)).pad (pad_rep [] (.int (0 : Int32)) 3)
        obtain ⟨cl105, Ar105, qc105, Sz105, Nn105, Hh105, Gg105⟩ := (id V97)
        have hin105 : ¬ ((0 : Int32) < 0 ∨ cl105.slots.size ≤ ((0 : Int32)).toNatClampNeg) := inb_of Sz105 ⟨by decide, by decide⟩
        obtain ⟨T105, h105, X105, e105, W105, st105⟩ := stC X97 hx hZ e97 Ar105 (j := (0 : Int32)) hin105 (g := (mkF m 69 #[.val (.int p3_0), .val (.int p3_1), .val (.int p3_2), .val (.int p3_3)] [(.int p3_1), (.int (0 : Int32)), (.ref b97), (.ref b97), (.ref b92), (.ref b92)])) rfl rfl (hb hby d3_69)
        have sf106 := Safe.wr W105 (Safe.arv hZ.alike V97 (by decide)) hCR.1 sf99
        have sf107 := Safe.wr W105 (Safe.arv hZ.alike V97 (by decide)) hCR.1 sf100
        have hCR := hCR.trans (CHr.wr W105 (Safe.arv hZ.alike V97 (by decide)) hCR.1)
        have hk := Nat.le_trans hk (Nat.le_of_eq W105.size.symm)
        have F108 : Sta Z h105 "java/lang/String" "COMPACT_STRINGS" "Z" (.int cs) := F101.wr W105
        have F109 : Exa Z h105 b92 "java/lang/String" := F102.wr W105
        have F110 : Fld Z h105 b92 "java/lang/String" "coder" "B" (.int (0 : Int32)) := F103.other W105 (Or.inl ne98)
        have F111 : Fld Z h105 b92 "java/lang/String" "value" "[B" .null := F104.other W105 (Or.inl ne98)
        have V105 : Arv Z h105 b97 k97 .char (3 : Int32) [(.int (nar .char p3_1)), (.int (0 : Int32)), (.int (0 : Int32))] (.int (0 : Int32)) := Arv.set Ar105 qc105 Sz105 Nn105 Hh105 Gg105 (fits_nar_char _) W105 0 rfl (Nat.le_of_ble_eq_true rfl)
        rw [show nar .char p3_1 = p3_1 from own_narC _ ⟨l_p3_1, u_p3_1⟩] at V105
        have N105 := Fr.snoc X105 N0 gg97
        have K105 : Keep h0 h105 [] := K97.wr W105 (Or.inr sz97)
        have Zs105 : n0 ≤ h105.size := by rw [W105.size]; exact Zs97
        obtain ⟨cl113, Ar113, qc113, Sz113, Nn113, Hh113, Gg113⟩ := (id V105)
        have hin113 : ¬ ((1 : Int32) < 0 ∨ cl113.slots.size ≤ ((1 : Int32)).toNatClampNeg) := inb_of Sz113 ⟨by decide, by decide⟩
        obtain ⟨T113, h113, X113, e113, W113, st113⟩ := stC X105 hx hZ e105 Ar113 (j := (1 : Int32)) hin113 (g := (mkF m 73 #[.val (.int p3_0), .val (.int p3_1), .val (.int p3_2), .val (.int p3_3)] [(.int p3_2), (.int (1 : Int32)), (.ref b97), (.ref b97), (.ref b92), (.ref b92)])) rfl rfl (hb hby d3_73)
        have sf114 := Safe.wr W113 (Safe.arv hZ.alike V105 (by decide)) hCR.1 sf106
        have sf115 := Safe.wr W113 (Safe.arv hZ.alike V105 (by decide)) hCR.1 sf107
        have hCR := hCR.trans (CHr.wr W113 (Safe.arv hZ.alike V105 (by decide)) hCR.1)
        have hk := Nat.le_trans hk (Nat.le_of_eq W113.size.symm)
        have F116 : Sta Z h113 "java/lang/String" "COMPACT_STRINGS" "Z" (.int cs) := F108.wr W113
        have F117 : Exa Z h113 b92 "java/lang/String" := F109.wr W113
        have F118 : Fld Z h113 b92 "java/lang/String" "coder" "B" (.int (0 : Int32)) := F110.other W113 (Or.inl ne98)
        have F119 : Fld Z h113 b92 "java/lang/String" "value" "[B" .null := F111.other W113 (Or.inl ne98)
        have V113 : Arv Z h113 b97 k97 .char (3 : Int32) [(.int p3_1), (.int (nar .char p3_2)), (.int (0 : Int32))] (.int (0 : Int32)) := Arv.set Ar113 qc113 Sz113 Nn113 Hh113 Gg113 (fits_nar_char _) W113 1 rfl (Nat.le_of_ble_eq_true rfl)
        rw [show nar .char p3_2 = p3_2 from own_narC _ ⟨l_p3_2, u_p3_2⟩] at V113
        have N113 := Fr.snoc X113 N105 gg97
        have K113 : Keep h0 h113 [] := K105.wr W113 (Or.inr sz97)
        have Zs113 : n0 ≤ h113.size := by rw [W113.size]; exact Zs105
        obtain ⟨cl121, Ar121, qc121, Sz121, Nn121, Hh121, Gg121⟩ := (id V113)
        have hin121 : ¬ ((2 : Int32) < 0 ∨ cl121.slots.size ≤ ((2 : Int32)).toNatClampNeg) := inb_of Sz121 ⟨by decide, by decide⟩
        obtain ⟨T121, h121, X121, e121, W121, st121⟩ := stC X113 hx hZ e113 Ar121 (j := (2 : Int32)) hin121 (g := (mkF m 77 #[.val (.int p3_0), .val (.int p3_1), .val (.int p3_2), .val (.int p3_3)] [(.int p3_3), (.int (2 : Int32)), (.ref b97), (.ref b97), (.ref b92), (.ref b92)])) rfl rfl (hb hby d3_77)
        have sf122 := Safe.wr W121 (Safe.arv hZ.alike V113 (by decide)) hCR.1 sf114
        have sf123 := Safe.wr W121 (Safe.arv hZ.alike V113 (by decide)) hCR.1 sf115
        have hCR := hCR.trans (CHr.wr W121 (Safe.arv hZ.alike V113 (by decide)) hCR.1)
        have hk := Nat.le_trans hk (Nat.le_of_eq W121.size.symm)
        have F124 : Sta Z h121 "java/lang/String" "COMPACT_STRINGS" "Z" (.int cs) := F116.wr W121
        have F125 : Exa Z h121 b92 "java/lang/String" := F117.wr W121
        have F126 : Fld Z h121 b92 "java/lang/String" "coder" "B" (.int (0 : Int32)) := F118.other W121 (Or.inl ne98)
        have F127 : Fld Z h121 b92 "java/lang/String" "value" "[B" .null := F119.other W121 (Or.inl ne98)
        have V121 : Arv Z h121 b97 k97 .char (3 : Int32) [(.int p3_1), (.int p3_2), (.int (nar .char p3_3))] (.int (0 : Int32)) := Arv.set Ar121 qc121 Sz121 Nn121 Hh121 Gg121 (fits_nar_char _) W121 2 rfl (Nat.le_of_ble_eq_true rfl)
        rw [show nar .char p3_3 = p3_3 from own_narC _ ⟨l_p3_3, u_p3_3⟩] at V121
        have N121 := Fr.snoc X121 N113 gg97
        have K121 : Keep h0 h121 [] := K113.wr W121 (Or.inr sz97)
        have Zs121 : n0 ≤ h121.size := by rw [W121.size]; exact Zs113
        obtain ⟨_, _, ⟨T129, L129, k129, n129⟩, -, X129, ⟨Lc129, hQ129, l129, y129, z129⟩, st129⟩ := X121.specialBack hx (y := (⟨"java/lang/String", "<init>", "([C)V"⟩ : MethodName)) rfl hown (mvT hZ (hw _ (List.mem_of_getElem? (i := 12) rfl))) (mvT hZ (hw _ (List.mem_of_getElem? (i := 13) rfl))) (mvT hZ (hw _ (List.mem_of_getElem? (i := 14) rfl))) (by decide) (StrChars.Road.backV (W := 1) hZ (fun d hd => hw d ((by decide +kernel : ∀ d ∈ StrChars.Road.words, d ∈ tables_1) d hd)) (kI := 4) (hw _ (List.mem_of_getElem? (i := 9) rfl)) (cs := ([p3_1, p3_2, p3_3] : List Int32)) (bs := ([p3_1, p3_2, p3_3] : List Int32).map (fun c => c.toInt8.toInt32)) (n := 3) gg92 Zs121 F125 F127 F126 V121 F124 hcs rfl rfl (by decide) (by decide) (own_alS ⟨l_p3_1, u_p3_1⟩ (own_alS ⟨l_p3_2, u_p3_2⟩ (own_alS ⟨l_p3_3, u_p3_3⟩ own_al0))) rfl (by decide) (by decide)) (g := (mkF m 78 #[.val (.int p3_0), .val (.int p3_1), .val (.int p3_2), .val (.int p3_3)] [(.ref b97), (.ref b92), (.ref b92)])) rfl (by rw [hml]; rfl) (Steps.refl _) (a := b92) (argsL := [(.ref b97)]) (rest := [(.ref b92)]) (lenOf pd_1 rfl) rfl (by show 2 * 0 + _ ≤ _; exact Nat.le_of_eq rfl) (hb hby d3_78) (fun _ _ => ⟨rfl, e121, (by decide : 2 + 1 ≤ _), (by decide : 7 + 3 ≤ _)⟩)
        dsimp only [Pt.U, Pt.locs, Pt.cells, Pt.slots] at X129 l129 y129 z129 st129 hQ129
        subst l129 y129 z129
        obtain ⟨rfl, N129q, Kc129, G129_0, G129_1, t129, kb129, ggt129, szt129, nex129, G129_2, G129_3⟩ := hQ129
        have ne130 : b92 ≠ t129 := Nat.ne_of_lt (Nat.lt_of_lt_of_le F125.lt szt129)
        have ne131 : b97 ≠ t129 := Nat.ne_of_lt (Nat.lt_of_lt_of_le V121.lt szt129)
        have szz129 : h0.size ≤ t129 := Nat.le_trans K121.1 szt129
        have Zs129 : n0 ≤ T129.heap.size := Nat.le_trans Zs121 Kc129.1
        have K129 : Keep h0 T129.heap [] := K121.trans Kc129 (allS (Or.inr sz92) all0)
        have sf132 := Safe.keep Kc129 (sfS sf122 sf0) hCR.1 sf122
        have sf133 := Safe.keep Kc129 (sfS sf122 sf0) hCR.1 sf123
        have hCR := hCR.trans (CHr.keep Kc129 (sfS sf122 sf0) hCR.1)
        have hk := Nat.le_trans hk Kc129.1
        have F134 : Sta Z T129.heap "java/lang/String" "COMPACT_STRINGS" "Z" (.int cs) := own_stakeep F124 Kc129 (allS (own_nsE F125) all0)
        have F135 : Arv Z T129.heap b97 k97 .char (3 : Int32) [(.int p3_1), (.int p3_2), (.int p3_3)] (.int (0 : Int32)) := V121.keep Kc129 (ninS (Ne.symm ne98) nin0)
        have N129 := Fr.app N121 N129q
        have hm : (own_mk p3_0 p3_1 p3_2 p3_3) = ([p3_1, p3_2, p3_3] : List Int32) := by unfold own_mk; rw [if_neg hc1_2, if_neg hc17_23, if_neg hc37_54]
        have Vm : Arv Z T129.heap t129 kb129 .byte (Int32.ofNat ([p3_1, p3_2, p3_3] : List Int32).length) (List.map Value.int (List.map (fun c => c.toInt8.toInt32) ([p3_1, p3_2, p3_3] : List Int32))) (.int (0 : Int32)) := G129_3
        rw [← hm] at Vm
        have k136 : ∀ t, Steps p.tables e below (T129.setTop (mkF m 81 #[.val (.int p3_0), .val (.int p3_1), .val (.int p3_2), .val (.int p3_3)] [(.ref b92)])) t → Steps p.tables e below (s₁.setTop (entryFrame m #[(.int p3_0), (.int p3_1), (.int p3_2), (.int p3_3)] 4)) t := by
          intro t k
          refine k53 t ?_
          show Steps p.tables e below (s₁.setTop (mkF m 37 #[.val (.int p3_0), .val (.int p3_1), .val (.int p3_2), .val (.int p3_3)] [(.int (2 : Int32)), (.int p3_0)])) _
          refine XS.icmpYes X0.here hx rfl (pc0 := 37) (pc' := 59) rfl (hb hby d3_37) rfl (feq hc37_54).2 (by decide) (by decide) ?_
          show Steps p.tables e below (s₁.setTop (mkF m 59 #[.val (.int p3_0), .val (.int p3_1), .val (.int p3_2), .val (.int p3_3)] [])) _
          refine st92 _ ?_
          show Steps p.tables e below (T92.setTop (mkF m 62 #[.val (.int p3_0), .val (.int p3_1), .val (.int p3_2), .val (.int p3_3)] [(.ref b92)])) _
          refine XS.dup X92.here hx rfl (hb hby d3_62) rfl rfl ?_
          show Steps p.tables e below (T92.setTop (mkF m 63 #[.val (.int p3_0), .val (.int p3_1), .val (.int p3_2), .val (.int p3_3)] [(.ref b92), (.ref b92)])) _
          refine XS.iconst X92.here hx rfl (hb hby d3_63) ?_
          show Steps p.tables e below (T92.setTop (mkF m 64 #[.val (.int p3_0), .val (.int p3_1), .val (.int p3_2), .val (.int p3_3)] [(.int (3 : Int32)), (.ref b92), (.ref b92)])) _
          refine st97 _ ?_
          show Steps p.tables e below (T97.setTop (mkF m 66 #[.val (.int p3_0), .val (.int p3_1), .val (.int p3_2), .val (.int p3_3)] [(.ref b97), (.ref b92), (.ref b92)])) _
          refine XS.dup X97.here hx rfl (hb hby d3_66) rfl rfl ?_
          show Steps p.tables e below (T97.setTop (mkF m 67 #[.val (.int p3_0), .val (.int p3_1), .val (.int p3_2), .val (.int p3_3)] [(.ref b97), (.ref b97), (.ref b92), (.ref b92)])) _
          refine XS.iconst X97.here hx rfl (hb hby d3_67) ?_
          show Steps p.tables e below (T97.setTop (mkF m 68 #[.val (.int p3_0), .val (.int p3_1), .val (.int p3_2), .val (.int p3_3)] [(.int (0 : Int32)), (.ref b97), (.ref b97), (.ref b92), (.ref b92)])) _
          refine XS.iloadN X97.here hx rfl (hb hby d3_68) rfl ?_
          show Steps p.tables e below (T97.setTop (mkF m 69 #[.val (.int p3_0), .val (.int p3_1), .val (.int p3_2), .val (.int p3_3)] [(.int p3_1), (.int (0 : Int32)), (.ref b97), (.ref b97), (.ref b92), (.ref b92)])) _
          refine st105 _ ?_
          show Steps p.tables e below (T105.setTop (mkF m 70 #[.val (.int p3_0), .val (.int p3_1), .val (.int p3_2), .val (.int p3_3)] [(.ref b97), (.ref b92), (.ref b92)])) _
          refine XS.dup X105.here hx rfl (hb hby d3_70) rfl rfl ?_
          show Steps p.tables e below (T105.setTop (mkF m 71 #[.val (.int p3_0), .val (.int p3_1), .val (.int p3_2), .val (.int p3_3)] [(.ref b97), (.ref b97), (.ref b92), (.ref b92)])) _
          refine XS.iconst X105.here hx rfl (hb hby d3_71) ?_
          show Steps p.tables e below (T105.setTop (mkF m 72 #[.val (.int p3_0), .val (.int p3_1), .val (.int p3_2), .val (.int p3_3)] [(.int (1 : Int32)), (.ref b97), (.ref b97), (.ref b92), (.ref b92)])) _
          refine XS.iloadN X105.here hx rfl (hb hby d3_72) rfl ?_
          show Steps p.tables e below (T105.setTop (mkF m 73 #[.val (.int p3_0), .val (.int p3_1), .val (.int p3_2), .val (.int p3_3)] [(.int p3_2), (.int (1 : Int32)), (.ref b97), (.ref b97), (.ref b92), (.ref b92)])) _
          refine st113 _ ?_
          show Steps p.tables e below (T113.setTop (mkF m 74 #[.val (.int p3_0), .val (.int p3_1), .val (.int p3_2), .val (.int p3_3)] [(.ref b97), (.ref b92), (.ref b92)])) _
          refine XS.dup X113.here hx rfl (hb hby d3_74) rfl rfl ?_
          show Steps p.tables e below (T113.setTop (mkF m 75 #[.val (.int p3_0), .val (.int p3_1), .val (.int p3_2), .val (.int p3_3)] [(.ref b97), (.ref b97), (.ref b92), (.ref b92)])) _
          refine XS.iconst X113.here hx rfl (hb hby d3_75) ?_
          show Steps p.tables e below (T113.setTop (mkF m 76 #[.val (.int p3_0), .val (.int p3_1), .val (.int p3_2), .val (.int p3_3)] [(.int (2 : Int32)), (.ref b97), (.ref b97), (.ref b92), (.ref b92)])) _
          refine XS.iloadN X113.here hx rfl (hb hby d3_76) rfl ?_
          show Steps p.tables e below (T113.setTop (mkF m 77 #[.val (.int p3_0), .val (.int p3_1), .val (.int p3_2), .val (.int p3_3)] [(.int p3_3), (.int (2 : Int32)), (.ref b97), (.ref b97), (.ref b92), (.ref b92)])) _
          refine st121 _ ?_
          show Steps p.tables e below (T121.setTop (mkF m 78 #[.val (.int p3_0), .val (.int p3_1), .val (.int p3_2), .val (.int p3_3)] [(.ref b97), (.ref b92), (.ref b92)])) _
          refine st129.trans ?_
          exact k
        obtain ⟨fs, hr, hrun, hended, hE1, hE2, hE3, hE4⟩ := X129.leaveW hS hk (v := some (.ref b92)) (fun h => by rw [Bd.returns] at h; cases h)
        have hCE := hCR.trans (CHv.at X129 hZ hEL hCR.1)
        refine ⟨_, _, k136 _ ?_, hrun, hended, _, _, rfl, ?_, (by show CHr Z consts_1 s.vm s.heap T129.vm T129.heap; rw [hh]; exact hCE), ⟨_, rfl⟩, hE2, hE3, hE4.mono (by decide) (by decide)⟩
        · exact retOut X129 hx Bd.returns rfl (Or.inr (Or.inr (Or.inr (Or.inr ⟨rfl, rfl, rfl⟩)))) (hb hby d3_81) hr
        · show Q3 Z p3_0 p3_1 p3_2 p3_3 cs h0 n0 _ T129.heap _
          exact ⟨b92, t129, kb129, rfl, N129, K129, gg92, sz92, G129_0, G129_2, G129_1, Vm⟩
theorem pn_2 : plainName "java/lang/Record" = true := by first | (simp [plainName, overriddenIn]; done) | decide +kernel
theorem d5_0 : decode jdk_30_method_1_code 0 = .ok (.aload_n 0, 1) := by decide +kernel
theorem d5_1 : decode jdk_30_method_1_code 1 = .ok (.invokespecial 1, 3) := by decide +kernel
theorem d5_4 : decode jdk_30_method_1_code 4 = .ok (.return_, 1) := by decide +kernel
theorem ef_5 (m : MethodId) (a5_0 : Addr) : entryFrame m #[(.ref a5_0)] 1 = mkF m 0 #[.val (.ref a5_0)] [] := by first | (simp [entryFrame, mkF, argsToLocals, Value.category]; done) | rfl
def Q5 (Z : State) (a5_0 : Addr) (h0 : Heap) (n0 : Nat) (v : Option Value) (h : Heap) (L : List Loc) : Prop := v = none ∧ Fr n0 L ∧ h = h0
set_option maxRecDepth 65536 in
set_option maxHeartbeats 40000000 in
theorem rm5 (l : Launch) (Z : State) (a0 : Array Value) (hw : ∀ d ∈ tables_1, d.before a0 Z = true) (ws : List Jvm.Cond) (a5_0 : Addr) (h0 : Heap) (n0 : Nat) (Z0 : n0 ≤ h0.size) :
    MetFree l (⟨"java/lang/Record", "<init>", "()V"⟩ : MethodName) (head1 (Jvm.Cond.code (⟨"java/lang/Record", "<init>", "()V"⟩ : MethodName) jdk_30_method_1_code 1 none :: ws) ({ frames := 1, cells := 0, slots := 0, locals := 12 } : Room)) (fun a U => a = #[(.ref a5_0)] ∧ Z.Warmed39 U.vm ∧ U.heap = h0) (fun _ _ _ _ _ => True) (fun _ U o U' => ∃ v L, o = .returned v ∧ Q5 Z a5_0 h0 n0 v U'.heap L ∧ FrameEnd U o U' L ({ frames := 1, cells := 0, slots := 0, locals := 12 } : Room).cells ({ frames := 1, cells := 0, slots := 0, locals := 12 } : Room).slots) := by
  refine MetFree.of_bodySF (plainFor_of_name pn_2) hisR ?_
  intro p e s m args below meth c s₁ Bd hml0 hP hK
  obtain ⟨rfl, hZ, hh⟩ := hP
  have hx := Bd.exec
  have hby := Bd.bytes
  have hml : c.maxLocals = 1 := hml0
  have hown : s.vm.findClass "java/lang/Record" = some m.cls := findClass_of_methodNamed Bd.named
  have hnm := (name_of_methodNamed Bd.named Bd.method).1
  have X0 : Stand p l e ({ frames := 1, cells := 0, slots := 0, locals := 12 } : Room) s m #[(.ref a5_0)] below meth c s₁ [] 0 0 := Stand.of_body Bd
  have e0 : s₁.heap = h0 := by rw [← hh, Bd.state]; rfl
  have N0 := Fr.nil n0
  have pre0 : ∀ t, Steps p.tables e below (s₁.setTop (mkF m 0 #[.val (.ref a5_0)] [])) t → Steps p.tables e below (s₁.setTop (entryFrame m #[(.ref a5_0)] 1)) t := fun t k => castTop (ef_5 m a5_0) k
  obtain ⟨T1, X1, e1, st1⟩ := initO X0 hx hZ hown (hw _ (List.mem_of_getElem? (i := 49) rfl)) (hw _ (List.mem_of_getElem? (i := 20) rfl)) (hw _ (List.mem_of_getElem? (i := 21) rfl)) e0 (g := (mkF m 1 #[.val (.ref a5_0)] [(.ref a5_0)])) rfl (by rw [hml]; rfl) rfl (hb hby d5_1) (by decide) (W := 0) (by show 2 * 0 + _ ≤ _; exact Nat.le_of_eq rfl) (by decide)
  have k2 : ∀ t, Steps p.tables e below (T1.setTop (mkF m 4 #[.val (.ref a5_0)] [])) t → Steps p.tables e below (s₁.setTop (entryFrame m #[(.ref a5_0)] 1)) t := by
    intro t k
    refine pre0 t ?_
    show Steps p.tables e below (s₁.setTop (mkF m 0 #[.val (.ref a5_0)] [])) _
    refine XS.aloadN X0.here hx rfl (hb hby d5_0) rfl rfl ?_
    show Steps p.tables e below (s₁.setTop (mkF m 1 #[.val (.ref a5_0)] [(.ref a5_0)])) _
    refine st1 _ ?_
    exact k
  obtain ⟨fs, hr, hrun, hended, hW, hsame⟩ := X1.leave (v := none) (fun _ => rfl)
  refine ⟨_, _, k2 _ ?_, hrun, hended, _, _, rfl, ?_, ⟨_, rfl⟩, hW, hsame.mono (by decide) (by decide)⟩
  · exact X1.returnOut hx Bd.returns (hb hby d5_4) hr
  · show Q5 Z a5_0 h0 n0 _ T1.heap _
    rw [e1]
    exact ⟨rfl, N0, rfl⟩
theorem pn_3 : plainName "com/example/oyster/oyster/engine/Tokens$Token" = true := by first | (simp [plainName, overriddenIn]; done) | decide +kernel
theorem pd_2 : parseMethodDescriptor "()V" = some ⟨[], none⟩ := by decide +kernel
theorem d6_0 : decode prog_20_method_1_code 0 = .ok (.aload_n 0, 1) := by decide +kernel
theorem d6_1 : decode prog_20_method_1_code 1 = .ok (.invokespecial 1, 3) := by decide +kernel
theorem d6_4 : decode prog_20_method_1_code 4 = .ok (.aload_n 0, 1) := by decide +kernel
theorem d6_5 : decode prog_20_method_1_code 5 = .ok (.aload_n 1, 1) := by decide +kernel
theorem d6_6 : decode prog_20_method_1_code 6 = .ok (.putfield 7, 3) := by decide +kernel
theorem d6_9 : decode prog_20_method_1_code 9 = .ok (.aload_n 0, 1) := by decide +kernel
theorem d6_10 : decode prog_20_method_1_code 10 = .ok (.aload_n 2, 1) := by decide +kernel
theorem d6_11 : decode prog_20_method_1_code 11 = .ok (.putfield 13, 3) := by decide +kernel
theorem d6_14 : decode prog_20_method_1_code 14 = .ok (.aload_n 0, 1) := by decide +kernel
theorem d6_15 : decode prog_20_method_1_code 15 = .ok (.iload_n 3, 1) := by decide +kernel
theorem d6_16 : decode prog_20_method_1_code 16 = .ok (.putfield 17, 3) := by decide +kernel
theorem d6_19 : decode prog_20_method_1_code 19 = .ok (.return_, 1) := by decide +kernel
theorem ef_6 (m : MethodId) (a6_0 : Addr) (a6_1 : Addr) (a6_2 : Addr) (p6_3 : Int32) : entryFrame m #[(.ref a6_0), (.ref a6_1), (.ref a6_2), (.int p6_3)] 4 = mkF m 0 #[.val (.ref a6_0), .val (.ref a6_1), .val (.ref a6_2), .val (.int p6_3)] [] := by first | (simp [entryFrame, mkF, argsToLocals, Value.category]; done) | rfl
def Q6 (Z : State) (a6_0 : Addr) (a6_1 : Addr) (a6_2 : Addr) (p6_3 : Int32) (h0 : Heap) (n0 : Nat) (v : Option Value) (h : Heap) (L : List Loc) : Prop := v = none ∧ Fr n0 L ∧ Keep h0 h [a6_0] ∧ Exa Z h a6_0 "com/example/oyster/oyster/engine/Tokens$Token" ∧ Fld Z h a6_0 "com/example/oyster/oyster/engine/Tokens$Token" "kind" "Lcom/example/oyster/oyster/engine/Tokens$Kind;" (.ref a6_1) ∧ Fld Z h a6_0 "com/example/oyster/oyster/engine/Tokens$Token" "text" "Ljava/lang/String;" (.ref a6_2)
set_option maxRecDepth 65536 in
set_option maxHeartbeats 40000000 in
theorem rm6 (l : Launch) (Z : State) (a0 : Array Value) (hw : ∀ d ∈ tables_1, d.before a0 Z = true) (ws : List Jvm.Cond) (a6_0 : Addr) (a6_1 : Addr) (a6_2 : Addr) (p6_3 : Int32) (h0 : Heap) (n0 : Nat) (Z0 : n0 ≤ h0.size) (Ea : Exa Z h0 a6_0 "com/example/oyster/oyster/engine/Tokens$Token") (Fk : Fld Z h0 a6_0 "com/example/oyster/oyster/engine/Tokens$Token" "kind" "Lcom/example/oyster/oyster/engine/Tokens$Kind;" .null) (Ft : Fld Z h0 a6_0 "com/example/oyster/oyster/engine/Tokens$Token" "text" "Ljava/lang/String;" .null) (Fc : Fld Z h0 a6_0 "com/example/oyster/oyster/engine/Tokens$Token" "column" "I" (.int (0 : Int32))) (g_a6_0 : n0 ≤ a6_0) :
    MetFree l (⟨"com/example/oyster/oyster/engine/Tokens$Token", "<init>", "(Lcom/example/oyster/oyster/engine/Tokens$Kind;Ljava/lang/String;I)V"⟩ : MethodName) (head1 (Jvm.Cond.code (⟨"com/example/oyster/oyster/engine/Tokens$Token", "<init>", "(Lcom/example/oyster/oyster/engine/Tokens$Kind;Ljava/lang/String;I)V"⟩ : MethodName) prog_20_method_1_code 4 none :: ws) ({ frames := 2, cells := 0, slots := 0, locals := 24 } : Room)) (fun a U => a = #[(.ref a6_0), (.ref a6_1), (.ref a6_2), (.int p6_3)] ∧ Z.Warmed39 U.vm ∧ U.heap = h0) (fun _ _ _ _ _ => True) (fun _ U o U' => ∃ v L, o = .returned v ∧ Q6 Z a6_0 a6_1 a6_2 p6_3 h0 n0 v U'.heap L ∧ FrameEnd U o U' L ({ frames := 2, cells := 0, slots := 0, locals := 24 } : Room).cells ({ frames := 2, cells := 0, slots := 0, locals := 24 } : Room).slots) := by
  refine MetFree.of_bodySF (plainFor_of_name pn_3) hisR ?_
  intro p e s m args below meth c s₁ Bd hml0 hP hK
  obtain ⟨rfl, hZ, hh⟩ := hP
  have hx := Bd.exec
  have hby := Bd.bytes
  have hml : c.maxLocals = 4 := hml0
  have hown : s.vm.findClass "com/example/oyster/oyster/engine/Tokens$Token" = some m.cls := findClass_of_methodNamed Bd.named
  have hnm := (name_of_methodNamed Bd.named Bd.method).1
  have X0 : Stand p l e ({ frames := 2, cells := 0, slots := 0, locals := 24 } : Room) s m #[(.ref a6_0), (.ref a6_1), (.ref a6_2), (.int p6_3)] below meth c s₁ [] 0 0 := Stand.of_body Bd
  have e0 : s₁.heap = h0 := by rw [← hh, Bd.state]; rfl
  have N0 := Fr.nil n0
  have pre0 : ∀ t, Steps p.tables e below (s₁.setTop (mkF m 0 #[.val (.ref a6_0), .val (.ref a6_1), .val (.ref a6_2), .val (.int p6_3)] [])) t → Steps p.tables e below (s₁.setTop (entryFrame m #[(.ref a6_0), (.ref a6_1), (.ref a6_2), (.int p6_3)] 4)) t := fun t k => castTop (ef_6 m a6_0 a6_1 a6_2 p6_3) k
  obtain ⟨_, _, ⟨T1, L1, k1, n1⟩, -, X1, ⟨Lc1, hQ1, l1, y1, z1⟩, st1⟩ := X0.specialBack hx (y := (⟨"java/lang/Record", "<init>", "()V"⟩ : MethodName)) rfl hown (mvT hZ (hw _ (List.mem_of_getElem? (i := 44) rfl))) (mvT hZ (hw _ (List.mem_of_getElem? (i := 45) rfl))) (mvT hZ (hw _ (List.mem_of_getElem? (i := 48) rfl))) (by decide) (backOf (W := 0) (rm5 l Z a0 hw [] a6_0 h0 n0 Z0 ) hZ (hw _ (List.mem_of_getElem? (i := 48) rfl)) (hw _ (List.mem_of_getElem? (i := 47) rfl)) (by decide) (by decide)) (g := (mkF m 1 #[.val (.ref a6_0), .val (.ref a6_1), .val (.ref a6_2), .val (.int p6_3)] [(.ref a6_0)])) rfl (by rw [hml]; rfl) (Steps.refl _) (a := a6_0) (argsL := []) (rest := []) (lenOf pd_2 rfl) rfl (by show 2 * 0 + _ ≤ _; exact Nat.le_of_eq rfl) (hb hby d6_1) (fun _ _ => ⟨rfl, e0, (by decide : 0 + 0 ≤ _), (by decide : 0 + 0 ≤ _)⟩)
  dsimp only [Pt.U, Pt.locs, Pt.cells, Pt.slots] at X1 l1 y1 z1 st1 hQ1
  subst l1 y1 z1
  obtain ⟨rfl, N1q, eh1⟩ := hQ1
  have N1 := Fr.app N0 N1q
  obtain ⟨T2, h2, X2, e2, W2, st2⟩ := putF X1 hx hZ hown (host := "") (Or.inl (hw _ (List.mem_of_getElem? (i := 50) rfl))) Via.refl eh1 Fk Ea (Or.inr ⟨(hw _ (List.mem_of_getElem? (i := 51) rfl)), rfl, hnm⟩) (hw _ (List.mem_of_getElem? (i := 39) rfl)) (ty := (.object "com/example/oyster/oyster/engine/Tokens$Kind")) (by decide) rfl rfl (g := (mkF m 6 #[.val (.ref a6_0), .val (.ref a6_1), .val (.ref a6_2), .val (.int p6_3)] [(.ref a6_1), (.ref a6_0)])) rfl rfl (hb hby d6_6)
  have Fw2 : Fld Z h2 a6_0 "com/example/oyster/oyster/engine/Tokens$Token" "kind" "Lcom/example/oyster/oyster/engine/Tokens$Kind;" (.ref a6_1) := Fk.same W2
  have F3 : Exa Z h2 a6_0 "com/example/oyster/oyster/engine/Tokens$Token" := Ea.wr W2
  have F5 : Fld Z h2 a6_0 "com/example/oyster/oyster/engine/Tokens$Token" "text" "Ljava/lang/String;" .null := Ft.other W2 (Or.inr (slot_ne (Or.inr (hw _ (List.mem_of_getElem? (i := 53) rfl))) (Or.inr (hw _ (List.mem_of_getElem? (i := 51) rfl))) (by decide) (t := (.object "java/lang/String")) (t' := (.object "com/example/oyster/oyster/engine/Tokens$Kind")) (by decide) (by decide)))
  have F6 : Fld Z h2 a6_0 "com/example/oyster/oyster/engine/Tokens$Token" "column" "I" (.int (0 : Int32)) := Fc.other W2 (Or.inr (slot_ne (Or.inr (hw _ (List.mem_of_getElem? (i := 55) rfl))) (Or.inr (hw _ (List.mem_of_getElem? (i := 51) rfl))) (by decide) (t := .int) (t' := (.object "com/example/oyster/oyster/engine/Tokens$Kind")) (by decide) (by decide)))
  have N2 := Fr.snoc X2 N1 g_a6_0
  have K2 : Keep h0 h2 [a6_0] := (Keep.refl h0 [a6_0]).wr W2 (Or.inl (List.mem_of_getElem? (i := 0) rfl))
  have Zs2 : n0 ≤ h2.size := by rw [W2.size]; exact Z0
  obtain ⟨T7, h7, X7, e7, W7, st7⟩ := putF X2 hx hZ hown (host := "") (Or.inl (hw _ (List.mem_of_getElem? (i := 52) rfl))) Via.refl e2 F5 F3 (Or.inr ⟨(hw _ (List.mem_of_getElem? (i := 53) rfl)), rfl, hnm⟩) (hw _ (List.mem_of_getElem? (i := 39) rfl)) (ty := (.object "java/lang/String")) (by decide) rfl rfl (g := (mkF m 11 #[.val (.ref a6_0), .val (.ref a6_1), .val (.ref a6_2), .val (.int p6_3)] [(.ref a6_2), (.ref a6_0)])) rfl rfl (hb hby d6_11)
  have Fw7 : Fld Z h7 a6_0 "com/example/oyster/oyster/engine/Tokens$Token" "text" "Ljava/lang/String;" (.ref a6_2) := F5.same W7
  have F8 : Exa Z h7 a6_0 "com/example/oyster/oyster/engine/Tokens$Token" := F3.wr W7
  have F10 : Fld Z h7 a6_0 "com/example/oyster/oyster/engine/Tokens$Token" "column" "I" (.int (0 : Int32)) := F6.other W7 (Or.inr (slot_ne (Or.inr (hw _ (List.mem_of_getElem? (i := 55) rfl))) (Or.inr (hw _ (List.mem_of_getElem? (i := 53) rfl))) (by decide) (t := .int) (t' := (.object "java/lang/String")) (by decide) (by decide)))
  have F11 : Fld Z h7 a6_0 "com/example/oyster/oyster/engine/Tokens$Token" "kind" "Lcom/example/oyster/oyster/engine/Tokens$Kind;" (.ref a6_1) := Fw2.other W7 (Or.inr (slot_ne (Or.inr (hw _ (List.mem_of_getElem? (i := 51) rfl))) (Or.inr (hw _ (List.mem_of_getElem? (i := 53) rfl))) (by decide) (t := (.object "com/example/oyster/oyster/engine/Tokens$Kind")) (t' := (.object "java/lang/String")) (by decide) (by decide)))
  have N7 := Fr.snoc X7 N2 g_a6_0
  have K7 : Keep h0 h7 [a6_0] := K2.wr W7 (Or.inl (List.mem_of_getElem? (i := 0) rfl))
  have Zs7 : n0 ≤ h7.size := by rw [W7.size]; exact Zs2
  obtain ⟨T12, h12, X12, e12, W12, st12⟩ := putF X7 hx hZ hown (host := "") (Or.inl (hw _ (List.mem_of_getElem? (i := 54) rfl))) Via.refl e7 F10 F8 (Or.inr ⟨(hw _ (List.mem_of_getElem? (i := 55) rfl)), rfl, hnm⟩) (hw _ (List.mem_of_getElem? (i := 39) rfl)) (ty := .int) (by decide) rfl rfl (g := (mkF m 16 #[.val (.ref a6_0), .val (.ref a6_1), .val (.ref a6_2), .val (.int p6_3)] [(.int p6_3), (.ref a6_0)])) rfl rfl (hb hby d6_16)
  have Fw12 : Fld Z h12 a6_0 "com/example/oyster/oyster/engine/Tokens$Token" "column" "I" (.int p6_3) := F10.same W12
  have F13 : Exa Z h12 a6_0 "com/example/oyster/oyster/engine/Tokens$Token" := F8.wr W12
  have F15 : Fld Z h12 a6_0 "com/example/oyster/oyster/engine/Tokens$Token" "kind" "Lcom/example/oyster/oyster/engine/Tokens$Kind;" (.ref a6_1) := F11.other W12 (Or.inr (slot_ne (Or.inr (hw _ (List.mem_of_getElem? (i := 51) rfl))) (Or.inr (hw _ (List.mem_of_getElem? (i := 55) rfl))) (by decide) (t := (.object "com/example/oyster/oyster/engine/Tokens$Kind")) (t' := .int) (by decide) (by decide)))
  have F16 : Fld Z h12 a6_0 "com/example/oyster/oyster/engine/Tokens$Token" "text" "Ljava/lang/String;" (.ref a6_2) := Fw7.other W12 (Or.inr (slot_ne (Or.inr (hw _ (List.mem_of_getElem? (i := 53) rfl))) (Or.inr (hw _ (List.mem_of_getElem? (i := 55) rfl))) (by decide) (t := (.object "java/lang/String")) (t' := .int) (by decide) (by decide)))
  have N12 := Fr.snoc X12 N7 g_a6_0
  have K12 : Keep h0 h12 [a6_0] := K7.wr W12 (Or.inl (List.mem_of_getElem? (i := 0) rfl))
  have Zs12 : n0 ≤ h12.size := by rw [W12.size]; exact Zs7
  have k17 : ∀ t, Steps p.tables e below (T12.setTop (mkF m 19 #[.val (.ref a6_0), .val (.ref a6_1), .val (.ref a6_2), .val (.int p6_3)] [])) t → Steps p.tables e below (s₁.setTop (entryFrame m #[(.ref a6_0), (.ref a6_1), (.ref a6_2), (.int p6_3)] 4)) t := by
    intro t k
    refine pre0 t ?_
    show Steps p.tables e below (s₁.setTop (mkF m 0 #[.val (.ref a6_0), .val (.ref a6_1), .val (.ref a6_2), .val (.int p6_3)] [])) _
    refine XS.aloadN X0.here hx rfl (hb hby d6_0) rfl rfl ?_
    show Steps p.tables e below (s₁.setTop (mkF m 1 #[.val (.ref a6_0), .val (.ref a6_1), .val (.ref a6_2), .val (.int p6_3)] [(.ref a6_0)])) _
    refine st1.trans ?_
    show Steps p.tables e below (T1.setTop (mkF m 4 #[.val (.ref a6_0), .val (.ref a6_1), .val (.ref a6_2), .val (.int p6_3)] [])) _
    refine XS.aloadN X1.here hx rfl (hb hby d6_4) rfl rfl ?_
    show Steps p.tables e below (T1.setTop (mkF m 5 #[.val (.ref a6_0), .val (.ref a6_1), .val (.ref a6_2), .val (.int p6_3)] [(.ref a6_0)])) _
    refine XS.aloadN X1.here hx rfl (hb hby d6_5) rfl rfl ?_
    show Steps p.tables e below (T1.setTop (mkF m 6 #[.val (.ref a6_0), .val (.ref a6_1), .val (.ref a6_2), .val (.int p6_3)] [(.ref a6_1), (.ref a6_0)])) _
    refine st2 _ ?_
    show Steps p.tables e below (T2.setTop (mkF m 9 #[.val (.ref a6_0), .val (.ref a6_1), .val (.ref a6_2), .val (.int p6_3)] [])) _
    refine XS.aloadN X2.here hx rfl (hb hby d6_9) rfl rfl ?_
    show Steps p.tables e below (T2.setTop (mkF m 10 #[.val (.ref a6_0), .val (.ref a6_1), .val (.ref a6_2), .val (.int p6_3)] [(.ref a6_0)])) _
    refine XS.aloadN X2.here hx rfl (hb hby d6_10) rfl rfl ?_
    show Steps p.tables e below (T2.setTop (mkF m 11 #[.val (.ref a6_0), .val (.ref a6_1), .val (.ref a6_2), .val (.int p6_3)] [(.ref a6_2), (.ref a6_0)])) _
    refine st7 _ ?_
    show Steps p.tables e below (T7.setTop (mkF m 14 #[.val (.ref a6_0), .val (.ref a6_1), .val (.ref a6_2), .val (.int p6_3)] [])) _
    refine XS.aloadN X7.here hx rfl (hb hby d6_14) rfl rfl ?_
    show Steps p.tables e below (T7.setTop (mkF m 15 #[.val (.ref a6_0), .val (.ref a6_1), .val (.ref a6_2), .val (.int p6_3)] [(.ref a6_0)])) _
    refine XS.iloadN X7.here hx rfl (hb hby d6_15) rfl ?_
    show Steps p.tables e below (T7.setTop (mkF m 16 #[.val (.ref a6_0), .val (.ref a6_1), .val (.ref a6_2), .val (.int p6_3)] [(.int p6_3), (.ref a6_0)])) _
    refine st12 _ ?_
    exact k
  obtain ⟨fs, hr, hrun, hended, hW, hsame⟩ := X12.leave (v := none) (fun _ => rfl)
  refine ⟨_, _, k17 _ ?_, hrun, hended, _, _, rfl, ?_, ⟨_, rfl⟩, hW, hsame.mono (by decide) (by decide)⟩
  · exact X12.returnOut hx Bd.returns (hb hby d6_19) hr
  · show Q6 Z a6_0 a6_1 a6_2 p6_3 h0 n0 _ T12.heap _
    rw [e12]
    exact ⟨rfl, N12, K12, F13, F15, F16⟩
theorem d7_0 : decode prog_20_method_2_code 0 = .ok (.aload_n 0, 1) := by decide +kernel
theorem d7_1 : decode prog_20_method_2_code 1 = .ok (.getfield 7, 3) := by decide +kernel
theorem d7_4 : decode prog_20_method_2_code 4 = .ok (.getstatic 21, 3) := by decide +kernel
theorem d7_7 : decode prog_20_method_2_code 7 = .ok (.if_acmp .ne 18, 3) := by decide +kernel
theorem d7_25 : decode prog_20_method_2_code 25 = .ok (.iconst 0, 1) := by decide +kernel
theorem d7_26 : decode prog_20_method_2_code 26 = .ok (.ireturn, 1) := by decide +kernel
theorem ef_7 (m : MethodId) (a7_0 : Addr) (a7_1 : Addr) : entryFrame m #[(.ref a7_0), (.ref a7_1)] 2 = mkF m 0 #[.val (.ref a7_0), .val (.ref a7_1)] [] := by first | (simp [entryFrame, mkF, argsToLocals, Value.category]; done) | rfl
def Q7 (Z : State) (a7_0 : Addr) (a7_1 : Addr) (us : Addr) (kd : Addr) (h0 : Heap) (n0 : Nat) (v : Option Value) (h : Heap) (L : List Loc) : Prop := v = some (.int (0 : Int32)) ∧ Fr n0 L ∧ h = h0
set_option maxRecDepth 65536 in
set_option maxHeartbeats 40000000 in
theorem rm7 (l : Launch) (Z : State) (a0 : Array Value) (hw : ∀ d ∈ tables_1, d.before a0 Z = true) (ws : List Jvm.Cond) (a7_0 : Addr) (a7_1 : Addr) (us : Addr) (kd : Addr) (h0 : Heap) (n0 : Nat) (Z0 : n0 ≤ h0.size) (Fk : Fld Z h0 a7_0 "com/example/oyster/oyster/engine/Tokens$Token" "kind" "Lcom/example/oyster/oyster/engine/Tokens$Kind;" (.ref kd)) (Ss : Sta Z h0 "com/example/oyster/oyster/engine/Tokens$Kind" "SYMBOL" "Lcom/example/oyster/oyster/engine/Tokens$Kind;" (.ref us)) (hne : kd ≠ us) :
    MetFree l (⟨"com/example/oyster/oyster/engine/Tokens$Token", "isSymbol", "(Ljava/lang/String;)Z"⟩ : MethodName) (head1 (Jvm.Cond.code (⟨"com/example/oyster/oyster/engine/Tokens$Token", "isSymbol", "(Ljava/lang/String;)Z"⟩ : MethodName) prog_20_method_2_code 2 (some .boolean) :: ws) ({ frames := 0, cells := 0, slots := 0, locals := 0 } : Room)) (fun a U => a = #[(.ref a7_0), (.ref a7_1)] ∧ Z.Warmed39 U.vm ∧ U.heap = h0) (fun _ _ _ _ _ => True) (fun _ U o U' => ∃ v L, o = .returned v ∧ Q7 Z a7_0 a7_1 us kd h0 n0 v U'.heap L ∧ FrameEnd U o U' L ({ frames := 0, cells := 0, slots := 0, locals := 0 } : Room).cells ({ frames := 0, cells := 0, slots := 0, locals := 0 } : Room).slots) := by
  refine MetFree.of_bodySF (plainFor_of_name pn_3) hisR ?_
  intro p e s m args below meth c s₁ Bd hml0 hP hK
  obtain ⟨rfl, hZ, hh⟩ := hP
  have hx := Bd.exec
  have hby := Bd.bytes
  have hml : c.maxLocals = 2 := hml0
  have hown : s.vm.findClass "com/example/oyster/oyster/engine/Tokens$Token" = some m.cls := findClass_of_methodNamed Bd.named
  have hnm := (name_of_methodNamed Bd.named Bd.method).1
  have X0 : Stand p l e ({ frames := 0, cells := 0, slots := 0, locals := 0 } : Room) s m #[(.ref a7_0), (.ref a7_1)] below meth c s₁ [] 0 0 := Stand.of_body Bd
  have e0 : s₁.heap = h0 := by rw [← hh, Bd.state]; rfl
  have N0 := Fr.nil n0
  have pre0 : ∀ t, Steps p.tables e below (s₁.setTop (mkF m 0 #[.val (.ref a7_0), .val (.ref a7_1)] [])) t → Steps p.tables e below (s₁.setTop (entryFrame m #[(.ref a7_0), (.ref a7_1)] 2)) t := fun t k => castTop (ef_7 m a7_0 a7_1) k
  obtain ⟨T1, X1, e1, st1⟩ := getF X0 hx hZ hown (host := "") (Or.inl (hw _ (List.mem_of_getElem? (i := 50) rfl))) Via.refl e0 Fk (g := (mkF m 1 #[.val (.ref a7_0), .val (.ref a7_1)] [(.ref a7_0)])) rfl rfl (hb hby d7_1)
  obtain ⟨T2, X2, e2, st2⟩ := getS2 X1 hx hZ hown (host := "") (Or.inl (hw _ (List.mem_of_getElem? (i := 61) rfl))) Via.refl e1 Ss (g := (mkF m 4 #[.val (.ref a7_0), .val (.ref a7_1)] [(.ref kd)])) rfl (hb hby d7_4)
  have k3 : ∀ t, Steps p.tables e below (T2.setTop (mkF m 26 #[.val (.ref a7_0), .val (.ref a7_1)] [(.int (0 : Int32))])) t → Steps p.tables e below (s₁.setTop (entryFrame m #[(.ref a7_0), (.ref a7_1)] 2)) t := by
    intro t k
    refine pre0 t ?_
    show Steps p.tables e below (s₁.setTop (mkF m 0 #[.val (.ref a7_0), .val (.ref a7_1)] [])) _
    refine XS.aloadN X0.here hx rfl (hb hby d7_0) rfl rfl ?_
    show Steps p.tables e below (s₁.setTop (mkF m 1 #[.val (.ref a7_0), .val (.ref a7_1)] [(.ref a7_0)])) _
    refine st1 _ ?_
    show Steps p.tables e below (T1.setTop (mkF m 4 #[.val (.ref a7_0), .val (.ref a7_1)] [(.ref kd)])) _
    refine st2 _ ?_
    show Steps p.tables e below (T2.setTop (mkF m 7 #[.val (.ref a7_0), .val (.ref a7_1)] [(.ref us), (.ref kd)])) _
    refine Jvm.RoadKit.acmp (g := (mkF m 7 #[.val (.ref a7_0), .val (.ref a7_1)] [(.ref us), (.ref kd)])) X2 hx rfl rfl rfl (pc0 := 7) (pc' := 25) (same := false) rfl (hb hby d7_7) rfl (decide_eq_false fun q => hne (Value.ref.inj q)) (by decide) (by decide) ?_
    show Steps p.tables e below (T2.setTop (mkF m 25 #[.val (.ref a7_0), .val (.ref a7_1)] [])) _
    refine XS.iconst X2.here hx rfl (hb hby d7_25) ?_
    exact k
  obtain ⟨fs, hr, hrun, hended, hW, hsame⟩ := X2.leave (v := some (.int (0 : Int32))) (fun h => by rw [Bd.returns] at h; cases h)
  refine ⟨_, _, k3 _ ?_, hrun, hended, _, _, rfl, ?_, ⟨_, rfl⟩, hW, hsame.mono (by decide) (by decide)⟩
  · exact retN X2 hx (t := .boolean) Bd.returns (by simp) (hb hby d7_26) hr
  · show Q7 Z a7_0 a7_1 us kd h0 n0 _ T2.heap _
    rw [e2]
    exact ⟨rfl, N0, rfl⟩
theorem pd_3 : parseMethodDescriptor "(Ljava/lang/Object;)Z" = some ⟨[(.object "java/lang/Object")], some .boolean⟩ := by decide +kernel
theorem d8_0 : decode prog_20_method_2_code 0 = .ok (.aload_n 0, 1) := by decide +kernel
theorem d8_1 : decode prog_20_method_2_code 1 = .ok (.getfield 7, 3) := by decide +kernel
theorem d8_4 : decode prog_20_method_2_code 4 = .ok (.getstatic 21, 3) := by decide +kernel
theorem d8_7 : decode prog_20_method_2_code 7 = .ok (.if_acmp .ne 18, 3) := by decide +kernel
theorem d8_10 : decode prog_20_method_2_code 10 = .ok (.aload_n 0, 1) := by decide +kernel
theorem d8_11 : decode prog_20_method_2_code 11 = .ok (.getfield 13, 3) := by decide +kernel
theorem d8_14 : decode prog_20_method_2_code 14 = .ok (.aload_n 1, 1) := by decide +kernel
theorem d8_15 : decode prog_20_method_2_code 15 = .ok (.invokevirtual 26, 3) := by decide +kernel
theorem d8_18 : decode prog_20_method_2_code 18 = .ok (.ifCond .eq 7, 3) := by decide +kernel
theorem d8_21 : decode prog_20_method_2_code 21 = .ok (.iconst 1, 1) := by decide +kernel
theorem d8_22 : decode prog_20_method_2_code 22 = .ok (.goto 4, 3) := by decide +kernel
theorem d8_25 : decode prog_20_method_2_code 25 = .ok (.iconst 0, 1) := by decide +kernel
theorem d8_26 : decode prog_20_method_2_code 26 = .ok (.ireturn, 1) := by decide +kernel
theorem ef_8 (m : MethodId) (a8_0 : Addr) (a8_1 : Addr) : entryFrame m #[(.ref a8_0), (.ref a8_1)] 2 = mkF m 0 #[.val (.ref a8_0), .val (.ref a8_1)] [] := by first | (simp [entryFrame, mkF, argsToLocals, Value.category]; done) | rfl
def own_sym (la : List Int32) (lb : List Int32) : Int32 := (if la = lb then (1 : Int32) else (0 : Int32))
def Q8 (Z : State) (a8_0 : Addr) (a8_1 : Addr) (us : Addr) (tx : Addr) (ta : Addr) (tb : Addr) (ka : ClassId) (kb : ClassId) (cs : Int32) (la : List Int32) (lb : List Int32) (h0 : Heap) (n0 : Nat) (v : Option Value) (h : Heap) (L : List Loc) : Prop := v = some (.int (own_sym la lb)) ∧ Fr n0 L ∧ h = h0
set_option maxRecDepth 65536 in
set_option maxHeartbeats 40000000 in
theorem rm8 (l : Launch) (Z : State) (a0 : Array Value) (hw : ∀ d ∈ tables_1, d.before a0 Z = true) (ws : List Jvm.Cond) (a8_0 : Addr) (a8_1 : Addr) (us : Addr) (tx : Addr) (ta : Addr) (tb : Addr) (ka : ClassId) (kb : ClassId) (cs : Int32) (la : List Int32) (lb : List Int32) (h0 : Heap) (n0 : Nat) (Z0 : n0 ≤ h0.size) (Fk : Fld Z h0 a8_0 "com/example/oyster/oyster/engine/Tokens$Token" "kind" "Lcom/example/oyster/oyster/engine/Tokens$Kind;" (.ref us)) (Ft : Fld Z h0 a8_0 "com/example/oyster/oyster/engine/Tokens$Token" "text" "Ljava/lang/String;" (.ref tx)) (Ss : Sta Z h0 "com/example/oyster/oyster/engine/Tokens$Kind" "SYMBOL" "Lcom/example/oyster/oyster/engine/Tokens$Kind;" (.ref us)) (Sc : Sta Z h0 "java/lang/String" "COMPACT_STRINGS" "Z" (.int cs)) (E1 : Exa Z h0 tx "java/lang/String") (V1 : Fld Z h0 tx "java/lang/String" "value" "[B" (.ref ta)) (C1 : Fld Z h0 tx "java/lang/String" "coder" "B" (.int (0 : Int32))) (K1 : Arv Z h0 ta ka .byte (Int32.ofNat la.length) (List.map Value.int (List.map (fun c => c.toInt8.toInt32) la)) (.int (0 : Int32))) (E2 : Exa Z h0 a8_1 "java/lang/String") (V2 : Fld Z h0 a8_1 "java/lang/String" "value" "[B" (.ref tb)) (C2 : Fld Z h0 a8_1 "java/lang/String" "coder" "B" (.int (0 : Int32))) (K2 : Arv Z h0 tb kb .byte (Int32.ofNat lb.length) (List.map Value.int (List.map (fun c => c.toInt8.toInt32) lb)) (.int (0 : Int32))) (hcs : ¬ (cs = (0 : Int32))) (hb_la : ∀ c ∈ la, ¬ c < 0 ∧ ¬ (255 : Int32) < c) (hb_lb : ∀ c ∈ lb, ¬ c < 0 ∧ ¬ (255 : Int32) < c) (hl_la : la.length ≤ 4000) (hl_lb : lb.length ≤ 4000) :
    MetFree l (⟨"com/example/oyster/oyster/engine/Tokens$Token", "isSymbol", "(Ljava/lang/String;)Z"⟩ : MethodName) (head1 (Jvm.Cond.code (⟨"com/example/oyster/oyster/engine/Tokens$Token", "isSymbol", "(Ljava/lang/String;)Z"⟩ : MethodName) prog_20_method_2_code 2 (some .boolean) :: ws) ({ frames := 2, cells := 0, slots := 0, locals := 28 } : Room)) (fun a U => a = #[(.ref a8_0), (.ref a8_1)] ∧ Z.Warmed39 U.vm ∧ U.heap = h0) (fun _ _ _ _ _ => True) (fun _ U o U' => ∃ v L, o = .returned v ∧ Q8 Z a8_0 a8_1 us tx ta tb ka kb cs la lb h0 n0 v U'.heap L ∧ FrameEnd U o U' L ({ frames := 2, cells := 0, slots := 0, locals := 28 } : Room).cells ({ frames := 2, cells := 0, slots := 0, locals := 28 } : Room).slots) := by
  refine MetFree.of_bodySF (plainFor_of_name pn_3) hisR ?_
  intro p e s m args below meth c s₁ Bd hml0 hP hK
  obtain ⟨rfl, hZ, hh⟩ := hP
  have hx := Bd.exec
  have hby := Bd.bytes
  have hml : c.maxLocals = 2 := hml0
  have hown : s.vm.findClass "com/example/oyster/oyster/engine/Tokens$Token" = some m.cls := findClass_of_methodNamed Bd.named
  have hnm := (name_of_methodNamed Bd.named Bd.method).1
  have X0 : Stand p l e ({ frames := 2, cells := 0, slots := 0, locals := 28 } : Room) s m #[(.ref a8_0), (.ref a8_1)] below meth c s₁ [] 0 0 := Stand.of_body Bd
  have e0 : s₁.heap = h0 := by rw [← hh, Bd.state]; rfl
  have N0 := Fr.nil n0
  have pre0 : ∀ t, Steps p.tables e below (s₁.setTop (mkF m 0 #[.val (.ref a8_0), .val (.ref a8_1)] [])) t → Steps p.tables e below (s₁.setTop (entryFrame m #[(.ref a8_0), (.ref a8_1)] 2)) t := fun t k => castTop (ef_8 m a8_0 a8_1) k
  obtain ⟨T1, X1, e1, st1⟩ := getF X0 hx hZ hown (host := "") (Or.inl (hw _ (List.mem_of_getElem? (i := 50) rfl))) Via.refl e0 Fk (g := (mkF m 1 #[.val (.ref a8_0), .val (.ref a8_1)] [(.ref a8_0)])) rfl rfl (hb hby d8_1)
  obtain ⟨T2, X2, e2, st2⟩ := getS2 X1 hx hZ hown (host := "") (Or.inl (hw _ (List.mem_of_getElem? (i := 61) rfl))) Via.refl e1 Ss (g := (mkF m 4 #[.val (.ref a8_0), .val (.ref a8_1)] [(.ref us)])) rfl (hb hby d8_4)
  obtain ⟨T3, X3, e3, st3⟩ := getF X2 hx hZ hown (host := "") (Or.inl (hw _ (List.mem_of_getElem? (i := 52) rfl))) Via.refl e2 Ft (g := (mkF m 11 #[.val (.ref a8_0), .val (.ref a8_1)] [(.ref a8_0)])) rfl rfl (hb hby d8_11)
  obtain ⟨cq4, kq4, q4a, q4b, q4c⟩ := isOf hZ e3 E1
  obtain ⟨_, _, ⟨T4, L4, k4, n4⟩, -, X4, ⟨Lc4, hQ4, l4, y4, z4⟩, st4⟩ := X3.virtualBack hx (y := (⟨"java/lang/String", "equals", "(Ljava/lang/Object;)Z"⟩ : MethodName)) (z := (⟨"java/lang/String", "equals", "(Ljava/lang/Object;)Z"⟩ : MethodName)) hown (mvT hZ (hw _ (List.mem_of_getElem? (i := 73) rfl))) (mvT hZ (hw _ (List.mem_of_getElem? (i := 74) rfl))) (notFace_of_selects (args := #[]) (mvT hZ (hw _ (List.mem_of_getElem? (i := 76) rfl)))) (mvT hZ (hw _ (List.mem_of_getElem? (i := 76) rfl))) (mvT hZ (hw _ (List.mem_of_getElem? (i := 75) rfl))) (by decide) (StrChars.Road.eqW (W := 0) hZ (fun d hd => hw d ((by decide +kernel : ∀ d ∈ StrChars.Road.wordsEq, d ∈ tables_1) d hd)) (kI := 4) (hw _ (List.mem_of_getElem? (i := 9) rfl)) (cs := la) E1 V1 C1 K1 (StrChars.Road.codOf rfl (fun c hc => (hb_la c hc).2)) (own_u16 hb_la) hl_la (ds := lb) E2 V2 C2 K2 (StrChars.Road.codOf rfl (fun c hc => (hb_lb c hc).2)) (own_u16 hb_lb) hl_lb Sc hcs (by decide) (by decide)) q4a q4c (g := (mkF m 15 #[.val (.ref a8_0), .val (.ref a8_1)] [(.ref a8_1), (.ref tx)])) rfl (by rw [hml]; rfl) (Steps.refl _) (argsL := [(.ref a8_1)]) (rest := []) (lenOf pd_3 rfl) rfl (by show 2 * 0 + _ ≤ _; exact Nat.le_of_eq rfl) (hb hby d8_15) (fun _ _ => ⟨rfl, e3, (by decide : 0 + 0 ≤ _), (by decide : 0 + 0 ≤ _)⟩)
  dsimp only [Pt.U, Pt.locs, Pt.cells, Pt.slots] at X4 l4 y4 z4 st4 hQ4
  subst l4 y4 z4
  obtain ⟨hor4, rfl, eh4⟩ := hQ4
  have N4 := Fr.app N0 (Fr.nil n0)
  rcases hor4 with ⟨rfl, heq4⟩ | ⟨rfl, heq4⟩
  · skip
    have k5 : ∀ t, Steps p.tables e below (T4.setTop (mkF m 26 #[.val (.ref a8_0), .val (.ref a8_1)] [(.int (1 : Int32))])) t → Steps p.tables e below (s₁.setTop (entryFrame m #[(.ref a8_0), (.ref a8_1)] 2)) t := by
      intro t k
      refine pre0 t ?_
      show Steps p.tables e below (s₁.setTop (mkF m 0 #[.val (.ref a8_0), .val (.ref a8_1)] [])) _
      refine XS.aloadN X0.here hx rfl (hb hby d8_0) rfl rfl ?_
      show Steps p.tables e below (s₁.setTop (mkF m 1 #[.val (.ref a8_0), .val (.ref a8_1)] [(.ref a8_0)])) _
      refine st1 _ ?_
      show Steps p.tables e below (T1.setTop (mkF m 4 #[.val (.ref a8_0), .val (.ref a8_1)] [(.ref us)])) _
      refine st2 _ ?_
      show Steps p.tables e below (T2.setTop (mkF m 7 #[.val (.ref a8_0), .val (.ref a8_1)] [(.ref us), (.ref us)])) _
      refine Jvm.RoadKit.acmp (g := (mkF m 7 #[.val (.ref a8_0), .val (.ref a8_1)] [(.ref us), (.ref us)])) X2 hx rfl rfl rfl (pc0 := 7) (pc' := 10) (same := true) rfl (hb hby d8_7) rfl (decide_eq_true rfl) (by decide) (by decide) ?_
      show Steps p.tables e below (T2.setTop (mkF m 10 #[.val (.ref a8_0), .val (.ref a8_1)] [])) _
      refine XS.aloadN X2.here hx rfl (hb hby d8_10) rfl rfl ?_
      show Steps p.tables e below (T2.setTop (mkF m 11 #[.val (.ref a8_0), .val (.ref a8_1)] [(.ref a8_0)])) _
      refine st3 _ ?_
      show Steps p.tables e below (T3.setTop (mkF m 14 #[.val (.ref a8_0), .val (.ref a8_1)] [(.ref tx)])) _
      refine XS.aloadN X3.here hx rfl (hb hby d8_14) rfl rfl ?_
      show Steps p.tables e below (T3.setTop (mkF m 15 #[.val (.ref a8_0), .val (.ref a8_1)] [(.ref a8_1), (.ref tx)])) _
      refine st4.trans ?_
      show Steps p.tables e below (T4.setTop (mkF m 18 #[.val (.ref a8_0), .val (.ref a8_1)] [(.int (1 : Int32))])) _
      refine XS.ifNo X4.here hx rfl (hb hby d8_18) rfl ((if0 _ _).trans (feq (by decide : ¬ ((1 : Int32) = (0 : Int32)))).1) ?_
      show Steps p.tables e below (T4.setTop (mkF m 21 #[.val (.ref a8_0), .val (.ref a8_1)] [])) _
      refine XS.iconst X4.here hx rfl (hb hby d8_21) ?_
      show Steps p.tables e below (T4.setTop (mkF m 22 #[.val (.ref a8_0), .val (.ref a8_1)] [(.int (1 : Int32))])) _
      refine XS.goto X4.here hx rfl (pc0 := 22) (pc' := 26) rfl (hb hby d8_22) (by decide) (by decide) ?_
      exact k
    obtain ⟨fs, hr, hrun, hended, hW, hsame⟩ := X4.leave (v := some (.int (1 : Int32))) (fun h => by rw [Bd.returns] at h; cases h)
    refine ⟨_, _, k5 _ ?_, hrun, hended, _, _, rfl, ?_, ⟨_, rfl⟩, hW, hsame.mono (by decide) (by decide)⟩
    · exact retN X4 hx (t := .boolean) Bd.returns (by simp) (hb hby d8_26) hr
    · show Q8 Z a8_0 a8_1 us tx ta tb ka kb cs la lb h0 n0 _ T4.heap _
      rw [eh4]
      exact ⟨congrArg (fun z => some (Value.int z)) (show ((1 : Int32) : Int32) = own_sym la lb from by unfold own_sym; rw [if_pos heq4]), N4, rfl⟩
  · skip
    have k6 : ∀ t, Steps p.tables e below (T4.setTop (mkF m 26 #[.val (.ref a8_0), .val (.ref a8_1)] [(.int (0 : Int32))])) t → Steps p.tables e below (s₁.setTop (entryFrame m #[(.ref a8_0), (.ref a8_1)] 2)) t := by
      intro t k
      refine pre0 t ?_
      show Steps p.tables e below (s₁.setTop (mkF m 0 #[.val (.ref a8_0), .val (.ref a8_1)] [])) _
      refine XS.aloadN X0.here hx rfl (hb hby d8_0) rfl rfl ?_
      show Steps p.tables e below (s₁.setTop (mkF m 1 #[.val (.ref a8_0), .val (.ref a8_1)] [(.ref a8_0)])) _
      refine st1 _ ?_
      show Steps p.tables e below (T1.setTop (mkF m 4 #[.val (.ref a8_0), .val (.ref a8_1)] [(.ref us)])) _
      refine st2 _ ?_
      show Steps p.tables e below (T2.setTop (mkF m 7 #[.val (.ref a8_0), .val (.ref a8_1)] [(.ref us), (.ref us)])) _
      refine Jvm.RoadKit.acmp (g := (mkF m 7 #[.val (.ref a8_0), .val (.ref a8_1)] [(.ref us), (.ref us)])) X2 hx rfl rfl rfl (pc0 := 7) (pc' := 10) (same := true) rfl (hb hby d8_7) rfl (decide_eq_true rfl) (by decide) (by decide) ?_
      show Steps p.tables e below (T2.setTop (mkF m 10 #[.val (.ref a8_0), .val (.ref a8_1)] [])) _
      refine XS.aloadN X2.here hx rfl (hb hby d8_10) rfl rfl ?_
      show Steps p.tables e below (T2.setTop (mkF m 11 #[.val (.ref a8_0), .val (.ref a8_1)] [(.ref a8_0)])) _
      refine st3 _ ?_
      show Steps p.tables e below (T3.setTop (mkF m 14 #[.val (.ref a8_0), .val (.ref a8_1)] [(.ref tx)])) _
      refine XS.aloadN X3.here hx rfl (hb hby d8_14) rfl rfl ?_
      show Steps p.tables e below (T3.setTop (mkF m 15 #[.val (.ref a8_0), .val (.ref a8_1)] [(.ref a8_1), (.ref tx)])) _
      refine st4.trans ?_
      show Steps p.tables e below (T4.setTop (mkF m 18 #[.val (.ref a8_0), .val (.ref a8_1)] [(.int (0 : Int32))])) _
      refine XS.ifYes X4.here hx rfl (pc0 := 18) (pc' := 25) rfl (hb hby d8_18) rfl ((if0 _ _).trans (teq (by decide : (0 : Int32) = (0 : Int32))).1) (by decide) (by decide) ?_
      show Steps p.tables e below (T4.setTop (mkF m 25 #[.val (.ref a8_0), .val (.ref a8_1)] [])) _
      refine XS.iconst X4.here hx rfl (hb hby d8_25) ?_
      exact k
    obtain ⟨fs, hr, hrun, hended, hW, hsame⟩ := X4.leave (v := some (.int (0 : Int32))) (fun h => by rw [Bd.returns] at h; cases h)
    refine ⟨_, _, k6 _ ?_, hrun, hended, _, _, rfl, ?_, ⟨_, rfl⟩, hW, hsame.mono (by decide) (by decide)⟩
    · exact retN X4 hx (t := .boolean) Bd.returns (by simp) (hb hby d8_26) hr
    · show Q8 Z a8_0 a8_1 us tx ta tb ka kb cs la lb h0 n0 _ T4.heap _
      rw [eh4]
      exact ⟨congrArg (fun z => some (Value.int z)) (show ((0 : Int32) : Int32) = own_sym la lb from by unfold own_sym; rw [if_neg heq4]), N4, rfl⟩
theorem own_fin (zt zs c1 c2 c3 x1 x2 x3 d1 d2 d3 : Int32) (ht : zt = 0 ∨ zt = 1 ∨ zt = 2 ∨ zt = 3) (hs : zs = 0 ∨ zs = 1 ∨ zs = 2 ∨ zs = 3) (h1 : c1 = x1 ↔ d1 = 0) (h2 : c2 = x2 ↔ d2 = 0) (h3 : c3 = x3 ↔ d3 = 0) : own_sym (own_mk zt c1 c2 c3) (own_mk zs x1 x2 x3) = (if zt = zs then (if zt < (1 : Int32) then (if zt < (2 : Int32) then (if zt < (3 : Int32) then (1 : Int32) else (if d3 = (0 : Int32) then (1 : Int32) else (0 : Int32))) else (if d2 = (0 : Int32) then (if zt < (3 : Int32) then (1 : Int32) else (if d3 = (0 : Int32) then (1 : Int32) else (0 : Int32))) else (0 : Int32))) else (if d1 = (0 : Int32) then (if zt < (2 : Int32) then (if zt < (3 : Int32) then (1 : Int32) else (if d3 = (0 : Int32) then (1 : Int32) else (0 : Int32))) else (if d2 = (0 : Int32) then (if zt < (3 : Int32) then (1 : Int32) else (if d3 = (0 : Int32) then (1 : Int32) else (0 : Int32))) else (0 : Int32))) else (0 : Int32))) else (0 : Int32)) := by
  rcases ht with rfl | rfl | rfl | rfl <;> rcases hs with rfl | rfl | rfl | rfl <;> simp (decide := true) [own_sym, own_mk, h1, h2, h3]
  all_goals (by_cases q1 : d1 = 0 <;> by_cases q2 : d2 = 0 <;> by_cases q3 : d3 = 0 <;> simp [q1, q2, q3])
theorem own_xiff {c x d : Int32} (h : x = c ^^^ d) : c = x ↔ d = 0 := by
  constructor
  · intro q; exact own_xor0 (h.symm.trans q.symm)
  · intro q; rw [h, q]; exact (own_x0 c).symm
theorem pd_4 : parseMethodDescriptor "(ICCC)Ljava/lang/String;" = some ⟨[.int, .char, .char, .char], some (.object "java/lang/String")⟩ := by decide +kernel
theorem pd_5 : parseMethodDescriptor "(Lcom/example/oyster/oyster/engine/Tokens$Kind;Ljava/lang/String;I)V" = some ⟨[(.object "com/example/oyster/oyster/engine/Tokens$Kind"), (.object "java/lang/String"), .int], none⟩ := by decide +kernel
theorem pd_6 : parseMethodDescriptor "(Ljava/lang/String;)Z" = some ⟨[(.object "java/lang/String")], some .boolean⟩ := by decide +kernel
theorem ef_0 (m : MethodId) (p0_0 : Int32) (p0_1 : Int32) (p0_2 : Int32) (p0_3 : Int32) : entryFrame m #[(.int p0_0), (.int p0_1), (.int p0_2), (.int p0_3)] maxLocals = mkF m 0 #[.val (.int p0_0), .val (.int p0_1), .val (.int p0_2), .val (.int p0_3), .unset, .unset, .unset, .unset, .unset, .unset, .unset, .unset, .unset, .unset, .unset, .unset, .unset, .unset] [] := by first | (simp [entryFrame, mkF, argsToLocals, Value.category, maxLocals]; done) | rfl
def Q0 (Z : State) (p0_0 : Int32) (p0_1 : Int32) (p0_2 : Int32) (p0_3 : Int32) (u_NUMBER : Addr) (u_SYMBOL : Addr) (u_NAME : Addr) (u_END : Addr) (u_STRING : Addr) (cs : Int32) (h0 : Heap) (n0 : Nat) (v : Option Value) (h : Heap) (L : List Loc) : Prop := v = some (.int (1 : Int32)) ∧ Fr n0 L
set_option maxRecDepth 65536 in
set_option maxHeartbeats 40000000 in
theorem rm0 (l : Launch) (Z : State) (a0 : Array Value) (hw : ∀ d ∈ tables_1, d.before a0 Z = true) (ws : List Jvm.Cond) (hEL : EW Z a0 consts_1) (wS : ∀ a ∈ Bundle.stringAtoms, a.before a0 Z = true) (p0_0 : Int32) (p0_1 : Int32) (p0_2 : Int32) (p0_3 : Int32) (u_NUMBER : Addr) (u_SYMBOL : Addr) (u_NAME : Addr) (u_END : Addr) (u_STRING : Addr) (cs : Int32) (h0 : Heap) (n0 : Nat) (Z0 : n0 ≤ h0.size) (S_NUMBER : Sta Z h0 "com/example/oyster/oyster/engine/Tokens$Kind" "NUMBER" "Lcom/example/oyster/oyster/engine/Tokens$Kind;" (.ref u_NUMBER)) (E_u_NUMBER : Exa Z h0 u_NUMBER "com/example/oyster/oyster/engine/Tokens$Kind") (S_SYMBOL : Sta Z h0 "com/example/oyster/oyster/engine/Tokens$Kind" "SYMBOL" "Lcom/example/oyster/oyster/engine/Tokens$Kind;" (.ref u_SYMBOL)) (E_u_SYMBOL : Exa Z h0 u_SYMBOL "com/example/oyster/oyster/engine/Tokens$Kind") (F_u_NUMBER_ordinal : Fld Z h0 u_NUMBER "java/lang/Enum" "ordinal" "I" (.int (0 : Int32))) (F_u_SYMBOL_ordinal : Fld Z h0 u_SYMBOL "java/lang/Enum" "ordinal" "I" (.int (3 : Int32))) (S_NAME : Sta Z h0 "com/example/oyster/oyster/engine/Tokens$Kind" "NAME" "Lcom/example/oyster/oyster/engine/Tokens$Kind;" (.ref u_NAME)) (E_u_NAME : Exa Z h0 u_NAME "com/example/oyster/oyster/engine/Tokens$Kind") (F_u_NAME_ordinal : Fld Z h0 u_NAME "java/lang/Enum" "ordinal" "I" (.int (2 : Int32))) (S_END : Sta Z h0 "com/example/oyster/oyster/engine/Tokens$Kind" "END" "Lcom/example/oyster/oyster/engine/Tokens$Kind;" (.ref u_END)) (E_u_END : Exa Z h0 u_END "com/example/oyster/oyster/engine/Tokens$Kind") (F_u_END_ordinal : Fld Z h0 u_END "java/lang/Enum" "ordinal" "I" (.int (4 : Int32))) (S_STRING : Sta Z h0 "com/example/oyster/oyster/engine/Tokens$Kind" "STRING" "Lcom/example/oyster/oyster/engine/Tokens$Kind;" (.ref u_STRING)) (E_u_STRING : Exa Z h0 u_STRING "com/example/oyster/oyster/engine/Tokens$Kind") (F_u_STRING_ordinal : Fld Z h0 u_STRING "java/lang/Enum" "ordinal" "I" (.int (1 : Int32))) (Sc : Sta Z h0 "java/lang/String" "COMPACT_STRINGS" "Z" (.int cs)) (hcs : ¬ (cs = (0 : Int32))) :
    MetFree l x (head1 (Jvm.Cond.code x code maxLocals ret :: ws) room_1) (fun a U => a = #[(.int p0_0), (.int p0_1), (.int p0_2), (.int p0_3)] ∧ Z.Warmed39 U.vm ∧ U.heap = h0 ∧ CHv Z consts_1 U.vm h0) (fun _ _ _ _ _ => True) (fun _ U o U' => ∃ v L, o = .returned v ∧ Q0 Z p0_0 p0_1 p0_2 p0_3 u_NUMBER u_SYMBOL u_NAME u_END u_STRING cs h0 n0 v U'.heap L ∧ CHr Z consts_1 U.vm U.heap U'.vm U'.heap ∧ ReturnedEndW U o U' L 24 1152) := by
  refine MetFree.of_bodySF (plainFor_of_name pn_1) hisR ?_
  intro p e s m args below meth c s₁ Bd hml0 hP hK
  obtain ⟨rfl, hZ, hh, hCH⟩ := hP
  have hx := Bd.exec
  have hby := Bd.bytes
  have hml : c.maxLocals = 18 := hml0
  have hown : s.vm.findClass "com/example/oyster/oyster/engine/TokenIsSymbolPinLaw" = some m.cls := findClass_of_methodNamed Bd.named
  have hnm := (name_of_methodNamed Bd.named Bd.method).1
  have X0 : Stand p l e room_1 (s.setVm s.vm) m #[(.int p0_0), (.int p0_1), (.int p0_2), (.int p0_3)] below meth c s₁ [] 0 0 := Stand.of_body Bd
  have e0 : s₁.heap = h0 := by rw [← hh, Bd.state]; rfl
  have N0 := Fr.nil n0
  have hS : s.Since s.vm h0.size := (State.WarmedH.refl s).since _
  have hk : h0.size ≤ h0.size := Nat.le_refl _
  have hCR : CHr Z consts_1 s.vm h0 s.vm h0 := CHr.refl hCH
  have pre0 : ∀ t, Steps p.tables e below (s₁.setTop (mkF m 0 #[.val (.int p0_0), .val (.int p0_1), .val (.int p0_2), .val (.int p0_3), .unset, .unset, .unset, .unset, .unset, .unset, .unset, .unset, .unset, .unset, .unset, .unset, .unset, .unset] [])) t → Steps p.tables e below (s₁.setTop (entryFrame m #[(.int p0_0), (.int p0_1), (.int p0_2), (.int p0_3)] maxLocals)) t := fun t k => castTop (ef_0 m p0_0 p0_1 p0_2 p0_3) k
  have ne_NUMBER : u_NUMBER ≠ u_SYMBOL := Fld.ne F_u_NUMBER_ordinal F_u_SYMBOL_ordinal (by intro q; cases q)
  have ne_STRING : u_STRING ≠ u_SYMBOL := Fld.ne F_u_STRING_ordinal F_u_SYMBOL_ordinal (by intro q; cases q)
  have ne_NAME : u_NAME ≠ u_SYMBOL := Fld.ne F_u_NAME_ordinal F_u_SYMBOL_ordinal (by intro q; cases q)
  have ne_END : u_END ≠ u_SYMBOL := Fld.ne F_u_END_ordinal F_u_SYMBOL_ordinal (by intro q; cases q)
  have k1 : ∀ t, Steps p.tables e below (s₁.setTop (mkF m 8 #[.val (.int p0_0), .val (.int p0_1), .val (.int p0_2), .val (.int p0_3), .val (.int ((p0_0 &&& (2147483647 : Int32)) % (5 : Int32))), .unset, .unset, .unset, .unset, .unset, .unset, .unset, .unset, .unset, .unset, .unset, .unset, .unset] [])) t → Steps p.tables e below (s₁.setTop (entryFrame m #[(.int p0_0), (.int p0_1), (.int p0_2), (.int p0_3)] maxLocals)) t := by
    intro t k
    refine pre0 t ?_
    show Steps p.tables e below (s₁.setTop (mkF m 0 #[.val (.int p0_0), .val (.int p0_1), .val (.int p0_2), .val (.int p0_3), .unset, .unset, .unset, .unset, .unset, .unset, .unset, .unset, .unset, .unset, .unset, .unset, .unset, .unset] [])) _
    refine XS.iloadN X0.here hx rfl (hb hby at_0) rfl ?_
    show Steps p.tables e below (s₁.setTop (mkF m 1 #[.val (.int p0_0), .val (.int p0_1), .val (.int p0_2), .val (.int p0_3), .unset, .unset, .unset, .unset, .unset, .unset, .unset, .unset, .unset, .unset, .unset, .unset, .unset, .unset] [(.int p0_0)])) _
    refine X0.ldcInt hx hown (mvT hZ (hw _ (List.mem_of_getElem? (i := 0) rfl))) (g := (mkF m 1 #[.val (.int p0_0), .val (.int p0_1), .val (.int p0_2), .val (.int p0_3), .unset, .unset, .unset, .unset, .unset, .unset, .unset, .unset, .unset, .unset, .unset, .unset, .unset, .unset] [(.int p0_0)])) rfl (hb hby at_1) _ ?_
    show Steps p.tables e below (s₁.setTop (mkF m 3 #[.val (.int p0_0), .val (.int p0_1), .val (.int p0_2), .val (.int p0_3), .unset, .unset, .unset, .unset, .unset, .unset, .unset, .unset, .unset, .unset, .unset, .unset, .unset, .unset] [(.int (2147483647 : Int32)), (.int p0_0)])) _
    refine XS.iand X0.here hx rfl (hb hby at_3) rfl ?_
    show Steps p.tables e below (s₁.setTop (mkF m 4 #[.val (.int p0_0), .val (.int p0_1), .val (.int p0_2), .val (.int p0_3), .unset, .unset, .unset, .unset, .unset, .unset, .unset, .unset, .unset, .unset, .unset, .unset, .unset, .unset] [(.int (p0_0 &&& (2147483647 : Int32)))])) _
    refine XS.iconst X0.here hx rfl (hb hby at_4) ?_
    show Steps p.tables e below (s₁.setTop (mkF m 5 #[.val (.int p0_0), .val (.int p0_1), .val (.int p0_2), .val (.int p0_3), .unset, .unset, .unset, .unset, .unset, .unset, .unset, .unset, .unset, .unset, .unset, .unset, .unset, .unset] [(.int (5 : Int32)), (.int (p0_0 &&& (2147483647 : Int32)))])) _
    refine iremM X0 hx rfl (hb hby at_5) rfl (by decide) ?_
    show Steps p.tables e below (s₁.setTop (mkF m 6 #[.val (.int p0_0), .val (.int p0_1), .val (.int p0_2), .val (.int p0_3), .unset, .unset, .unset, .unset, .unset, .unset, .unset, .unset, .unset, .unset, .unset, .unset, .unset, .unset] [(.int ((p0_0 &&& (2147483647 : Int32)) % (5 : Int32)))])) _
    refine XS.istore X0.here hx rfl (hb hby at_6) rfl (l' := #[.val (.int p0_0), .val (.int p0_1), .val (.int p0_2), .val (.int p0_3), .val (.int ((p0_0 &&& (2147483647 : Int32)) % (5 : Int32))), .unset, .unset, .unset, .unset, .unset, .unset, .unset, .unset, .unset, .unset, .unset, .unset, .unset]) rfl ?_
    exact k
  obtain ⟨z2, hz2⟩ : ∃ z, z = ((p0_0 &&& (2147483647 : Int32)) % (5 : Int32)) := ⟨_, rfl⟩
  rw [← hz2] at k1
  have hz2' : z2 = (0 : Int32) ∨ z2 = (1 : Int32) ∨ z2 = (2 : Int32) ∨ z2 = (3 : Int32) ∨ z2 = (4 : Int32) := by rw [hz2]; exact own_mod5 _
  rcases hz2' with rfl | rfl | rfl | rfl | rfl
  · skip
    obtain ⟨T3, X3, e3, st3⟩ := getS2 X0 hx hZ hown (host := "") (Or.inl (hw _ (List.mem_of_getElem? (i := 1) rfl))) Via.refl e0 S_NUMBER (g := (mkF m 13 #[.val (.int p0_0), .val (.int p0_1), .val (.int p0_2), .val (.int p0_3), .val (.int (0 : Int32)), .unset, .unset, .unset, .unset, .unset, .unset, .unset, .unset, .unset, .unset, .unset, .unset, .unset] [])) rfl (hb hby at_13)
    have k4 : ∀ t, Steps p.tables e below (T3.setTop (mkF m 71 #[.val (.int p0_0), .val (.int p0_1), .val (.int p0_2), .val (.int p0_3), .val (.int (0 : Int32)), .val (.ref u_NUMBER), .unset, .unset, .unset, .unset, .unset, .unset, .unset, .unset, .unset, .unset, .unset, .unset] [(.int (p0_1 &&& (3 : Int32)))])) t → Steps p.tables e below (s₁.setTop (entryFrame m #[(.int p0_0), (.int p0_1), (.int p0_2), (.int p0_3)] maxLocals)) t := by
      intro t k
      refine k1 t ?_
      show Steps p.tables e below (s₁.setTop (mkF m 8 #[.val (.int p0_0), .val (.int p0_1), .val (.int p0_2), .val (.int p0_3), .val (.int (0 : Int32)), .unset, .unset, .unset, .unset, .unset, .unset, .unset, .unset, .unset, .unset, .unset, .unset, .unset] [])) _
      refine XS.iload X0.here hx rfl (hb hby at_8) rfl ?_
      show Steps p.tables e below (s₁.setTop (mkF m 10 #[.val (.int p0_0), .val (.int p0_1), .val (.int p0_2), .val (.int p0_3), .val (.int (0 : Int32)), .unset, .unset, .unset, .unset, .unset, .unset, .unset, .unset, .unset, .unset, .unset, .unset, .unset] [(.int (0 : Int32))])) _
      refine XS.ifNo X0.here hx rfl (hb hby at_10) rfl ((if0 _ _).trans (teq (by decide : (0 : Int32) = (0 : Int32))).2) ?_
      show Steps p.tables e below (s₁.setTop (mkF m 13 #[.val (.int p0_0), .val (.int p0_1), .val (.int p0_2), .val (.int p0_3), .val (.int (0 : Int32)), .unset, .unset, .unset, .unset, .unset, .unset, .unset, .unset, .unset, .unset, .unset, .unset, .unset] [])) _
      refine st3 _ ?_
      show Steps p.tables e below (T3.setTop (mkF m 16 #[.val (.int p0_0), .val (.int p0_1), .val (.int p0_2), .val (.int p0_3), .val (.int (0 : Int32)), .unset, .unset, .unset, .unset, .unset, .unset, .unset, .unset, .unset, .unset, .unset, .unset, .unset] [(.ref u_NUMBER)])) _
      refine XS.astore X3.here hx rfl (hb hby at_16) rfl rfl (l' := #[.val (.int p0_0), .val (.int p0_1), .val (.int p0_2), .val (.int p0_3), .val (.int (0 : Int32)), .val (.ref u_NUMBER), .unset, .unset, .unset, .unset, .unset, .unset, .unset, .unset, .unset, .unset, .unset, .unset]) rfl ?_
      show Steps p.tables e below (T3.setTop (mkF m 18 #[.val (.int p0_0), .val (.int p0_1), .val (.int p0_2), .val (.int p0_3), .val (.int (0 : Int32)), .val (.ref u_NUMBER), .unset, .unset, .unset, .unset, .unset, .unset, .unset, .unset, .unset, .unset, .unset, .unset] [])) _
      refine XS.goto X3.here hx rfl (pc0 := 18) (pc' := 68) rfl (hb hby at_18) (by decide) (by decide) ?_
      show Steps p.tables e below (T3.setTop (mkF m 68 #[.val (.int p0_0), .val (.int p0_1), .val (.int p0_2), .val (.int p0_3), .val (.int (0 : Int32)), .val (.ref u_NUMBER), .unset, .unset, .unset, .unset, .unset, .unset, .unset, .unset, .unset, .unset, .unset, .unset] [])) _
      refine XS.iloadN X3.here hx rfl (hb hby at_68) rfl ?_
      show Steps p.tables e below (T3.setTop (mkF m 69 #[.val (.int p0_0), .val (.int p0_1), .val (.int p0_2), .val (.int p0_3), .val (.int (0 : Int32)), .val (.ref u_NUMBER), .unset, .unset, .unset, .unset, .unset, .unset, .unset, .unset, .unset, .unset, .unset, .unset] [(.int p0_1)])) _
      refine XS.iconst X3.here hx rfl (hb hby at_69) ?_
      show Steps p.tables e below (T3.setTop (mkF m 70 #[.val (.int p0_0), .val (.int p0_1), .val (.int p0_2), .val (.int p0_3), .val (.int (0 : Int32)), .val (.ref u_NUMBER), .unset, .unset, .unset, .unset, .unset, .unset, .unset, .unset, .unset, .unset, .unset, .unset] [(.int (3 : Int32)), (.int p0_1)])) _
      refine XS.iand X3.here hx rfl (hb hby at_70) rfl ?_
      exact k
    obtain ⟨zt, hzt⟩ : ∃ z, z = (p0_1 &&& (3 : Int32)) := ⟨_, rfl⟩
    rw [← hzt] at k4
    have k5 : ∀ t, Steps p.tables e below (T3.setTop (mkF m 76 #[.val (.int p0_0), .val (.int p0_1), .val (.int p0_2), .val (.int p0_3), .val (.int (0 : Int32)), .val (.ref u_NUMBER), .val (.int zt), .unset, .unset, .unset, .unset, .unset, .unset, .unset, .unset, .unset, .unset, .unset] [(.int (p0_2 &&& (3 : Int32)))])) t → Steps p.tables e below (s₁.setTop (entryFrame m #[(.int p0_0), (.int p0_1), (.int p0_2), (.int p0_3)] maxLocals)) t := by
      intro t k
      refine k4 t ?_
      show Steps p.tables e below (T3.setTop (mkF m 71 #[.val (.int p0_0), .val (.int p0_1), .val (.int p0_2), .val (.int p0_3), .val (.int (0 : Int32)), .val (.ref u_NUMBER), .unset, .unset, .unset, .unset, .unset, .unset, .unset, .unset, .unset, .unset, .unset, .unset] [(.int zt)])) _
      refine XS.istore X3.here hx rfl (hb hby at_71) rfl (l' := #[.val (.int p0_0), .val (.int p0_1), .val (.int p0_2), .val (.int p0_3), .val (.int (0 : Int32)), .val (.ref u_NUMBER), .val (.int zt), .unset, .unset, .unset, .unset, .unset, .unset, .unset, .unset, .unset, .unset, .unset]) rfl ?_
      show Steps p.tables e below (T3.setTop (mkF m 73 #[.val (.int p0_0), .val (.int p0_1), .val (.int p0_2), .val (.int p0_3), .val (.int (0 : Int32)), .val (.ref u_NUMBER), .val (.int zt), .unset, .unset, .unset, .unset, .unset, .unset, .unset, .unset, .unset, .unset, .unset] [])) _
      refine XS.iloadN X3.here hx rfl (hb hby at_73) rfl ?_
      show Steps p.tables e below (T3.setTop (mkF m 74 #[.val (.int p0_0), .val (.int p0_1), .val (.int p0_2), .val (.int p0_3), .val (.int (0 : Int32)), .val (.ref u_NUMBER), .val (.int zt), .unset, .unset, .unset, .unset, .unset, .unset, .unset, .unset, .unset, .unset, .unset] [(.int p0_2)])) _
      refine XS.iconst X3.here hx rfl (hb hby at_74) ?_
      show Steps p.tables e below (T3.setTop (mkF m 75 #[.val (.int p0_0), .val (.int p0_1), .val (.int p0_2), .val (.int p0_3), .val (.int (0 : Int32)), .val (.ref u_NUMBER), .val (.int zt), .unset, .unset, .unset, .unset, .unset, .unset, .unset, .unset, .unset, .unset, .unset] [(.int (3 : Int32)), (.int p0_2)])) _
      refine XS.iand X3.here hx rfl (hb hby at_75) rfl ?_
      exact k
    obtain ⟨zs, hzs⟩ : ∃ z, z = (p0_2 &&& (3 : Int32)) := ⟨_, rfl⟩
    rw [← hzs] at k5
    have k6 : ∀ t, Steps p.tables e below (T3.setTop (mkF m 86 #[.val (.int p0_0), .val (.int p0_1), .val (.int p0_2), .val (.int p0_3), .val (.int (0 : Int32)), .val (.ref u_NUMBER), .val (.int zt), .val (.int zs), .unset, .unset, .unset, .unset, .unset, .unset, .unset, .unset, .unset, .unset] [(.int (((p0_1.toUInt32 >>> ((8 : Int32) &&& 31).toUInt32).toInt32) &&& (255 : Int32)))])) t → Steps p.tables e below (s₁.setTop (entryFrame m #[(.int p0_0), (.int p0_1), (.int p0_2), (.int p0_3)] maxLocals)) t := by
      intro t k
      refine k5 t ?_
      show Steps p.tables e below (T3.setTop (mkF m 76 #[.val (.int p0_0), .val (.int p0_1), .val (.int p0_2), .val (.int p0_3), .val (.int (0 : Int32)), .val (.ref u_NUMBER), .val (.int zt), .unset, .unset, .unset, .unset, .unset, .unset, .unset, .unset, .unset, .unset, .unset] [(.int zs)])) _
      refine XS.istore X3.here hx rfl (hb hby at_76) rfl (l' := #[.val (.int p0_0), .val (.int p0_1), .val (.int p0_2), .val (.int p0_3), .val (.int (0 : Int32)), .val (.ref u_NUMBER), .val (.int zt), .val (.int zs), .unset, .unset, .unset, .unset, .unset, .unset, .unset, .unset, .unset, .unset]) rfl ?_
      show Steps p.tables e below (T3.setTop (mkF m 78 #[.val (.int p0_0), .val (.int p0_1), .val (.int p0_2), .val (.int p0_3), .val (.int (0 : Int32)), .val (.ref u_NUMBER), .val (.int zt), .val (.int zs), .unset, .unset, .unset, .unset, .unset, .unset, .unset, .unset, .unset, .unset] [])) _
      refine XS.iloadN X3.here hx rfl (hb hby at_78) rfl ?_
      show Steps p.tables e below (T3.setTop (mkF m 79 #[.val (.int p0_0), .val (.int p0_1), .val (.int p0_2), .val (.int p0_3), .val (.int (0 : Int32)), .val (.ref u_NUMBER), .val (.int zt), .val (.int zs), .unset, .unset, .unset, .unset, .unset, .unset, .unset, .unset, .unset, .unset] [(.int p0_1)])) _
      refine XS.bipush X3.here hx rfl (hb hby at_79) ?_
      show Steps p.tables e below (T3.setTop (mkF m 81 #[.val (.int p0_0), .val (.int p0_1), .val (.int p0_2), .val (.int p0_3), .val (.int (0 : Int32)), .val (.ref u_NUMBER), .val (.int zt), .val (.int zs), .unset, .unset, .unset, .unset, .unset, .unset, .unset, .unset, .unset, .unset] [(.int (8 : Int32)), (.int p0_1)])) _
      refine XS.iushr X3.here hx rfl (hb hby at_81) rfl ?_
      show Steps p.tables e below (T3.setTop (mkF m 82 #[.val (.int p0_0), .val (.int p0_1), .val (.int p0_2), .val (.int p0_3), .val (.int (0 : Int32)), .val (.ref u_NUMBER), .val (.int zt), .val (.int zs), .unset, .unset, .unset, .unset, .unset, .unset, .unset, .unset, .unset, .unset] [(.int ((p0_1.toUInt32 >>> ((8 : Int32) &&& 31).toUInt32).toInt32))])) _
      refine XS.sipush X3.here hx rfl (hb hby at_82) ?_
      show Steps p.tables e below (T3.setTop (mkF m 85 #[.val (.int p0_0), .val (.int p0_1), .val (.int p0_2), .val (.int p0_3), .val (.int (0 : Int32)), .val (.ref u_NUMBER), .val (.int zt), .val (.int zs), .unset, .unset, .unset, .unset, .unset, .unset, .unset, .unset, .unset, .unset] [(.int (255 : Int32)), (.int ((p0_1.toUInt32 >>> ((8 : Int32) &&& 31).toUInt32).toInt32))])) _
      refine XS.iand X3.here hx rfl (hb hby at_85) rfl ?_
      exact k
    obtain ⟨zc1, hzc1⟩ : ∃ z, z = (((p0_1.toUInt32 >>> ((8 : Int32) &&& 31).toUInt32).toInt32) &&& (255 : Int32)) := ⟨_, rfl⟩
    rw [← hzc1] at k6
    have hr_zc1 : ¬ (zc1 < (0 : Int32)) ∧ ¬ ((255 : Int32) < zc1) := by rw [hzc1]; exact own_m255 _
    have k7 : ∀ t, Steps p.tables e below (T3.setTop (mkF m 96 #[.val (.int p0_0), .val (.int p0_1), .val (.int p0_2), .val (.int p0_3), .val (.int (0 : Int32)), .val (.ref u_NUMBER), .val (.int zt), .val (.int zs), .val (.int zc1), .unset, .unset, .unset, .unset, .unset, .unset, .unset, .unset, .unset] [(.int (((p0_1.toUInt32 >>> ((16 : Int32) &&& 31).toUInt32).toInt32) &&& (255 : Int32)))])) t → Steps p.tables e below (s₁.setTop (entryFrame m #[(.int p0_0), (.int p0_1), (.int p0_2), (.int p0_3)] maxLocals)) t := by
      intro t k
      refine k6 t ?_
      show Steps p.tables e below (T3.setTop (mkF m 86 #[.val (.int p0_0), .val (.int p0_1), .val (.int p0_2), .val (.int p0_3), .val (.int (0 : Int32)), .val (.ref u_NUMBER), .val (.int zt), .val (.int zs), .unset, .unset, .unset, .unset, .unset, .unset, .unset, .unset, .unset, .unset] [(.int zc1)])) _
      refine XS.istore X3.here hx rfl (hb hby at_86) rfl (l' := #[.val (.int p0_0), .val (.int p0_1), .val (.int p0_2), .val (.int p0_3), .val (.int (0 : Int32)), .val (.ref u_NUMBER), .val (.int zt), .val (.int zs), .val (.int zc1), .unset, .unset, .unset, .unset, .unset, .unset, .unset, .unset, .unset]) rfl ?_
      show Steps p.tables e below (T3.setTop (mkF m 88 #[.val (.int p0_0), .val (.int p0_1), .val (.int p0_2), .val (.int p0_3), .val (.int (0 : Int32)), .val (.ref u_NUMBER), .val (.int zt), .val (.int zs), .val (.int zc1), .unset, .unset, .unset, .unset, .unset, .unset, .unset, .unset, .unset] [])) _
      refine XS.iloadN X3.here hx rfl (hb hby at_88) rfl ?_
      show Steps p.tables e below (T3.setTop (mkF m 89 #[.val (.int p0_0), .val (.int p0_1), .val (.int p0_2), .val (.int p0_3), .val (.int (0 : Int32)), .val (.ref u_NUMBER), .val (.int zt), .val (.int zs), .val (.int zc1), .unset, .unset, .unset, .unset, .unset, .unset, .unset, .unset, .unset] [(.int p0_1)])) _
      refine XS.bipush X3.here hx rfl (hb hby at_89) ?_
      show Steps p.tables e below (T3.setTop (mkF m 91 #[.val (.int p0_0), .val (.int p0_1), .val (.int p0_2), .val (.int p0_3), .val (.int (0 : Int32)), .val (.ref u_NUMBER), .val (.int zt), .val (.int zs), .val (.int zc1), .unset, .unset, .unset, .unset, .unset, .unset, .unset, .unset, .unset] [(.int (16 : Int32)), (.int p0_1)])) _
      refine XS.iushr X3.here hx rfl (hb hby at_91) rfl ?_
      show Steps p.tables e below (T3.setTop (mkF m 92 #[.val (.int p0_0), .val (.int p0_1), .val (.int p0_2), .val (.int p0_3), .val (.int (0 : Int32)), .val (.ref u_NUMBER), .val (.int zt), .val (.int zs), .val (.int zc1), .unset, .unset, .unset, .unset, .unset, .unset, .unset, .unset, .unset] [(.int ((p0_1.toUInt32 >>> ((16 : Int32) &&& 31).toUInt32).toInt32))])) _
      refine XS.sipush X3.here hx rfl (hb hby at_92) ?_
      show Steps p.tables e below (T3.setTop (mkF m 95 #[.val (.int p0_0), .val (.int p0_1), .val (.int p0_2), .val (.int p0_3), .val (.int (0 : Int32)), .val (.ref u_NUMBER), .val (.int zt), .val (.int zs), .val (.int zc1), .unset, .unset, .unset, .unset, .unset, .unset, .unset, .unset, .unset] [(.int (255 : Int32)), (.int ((p0_1.toUInt32 >>> ((16 : Int32) &&& 31).toUInt32).toInt32))])) _
      refine XS.iand X3.here hx rfl (hb hby at_95) rfl ?_
      exact k
    obtain ⟨zc2, hzc2⟩ : ∃ z, z = (((p0_1.toUInt32 >>> ((16 : Int32) &&& 31).toUInt32).toInt32) &&& (255 : Int32)) := ⟨_, rfl⟩
    rw [← hzc2] at k7
    have hr_zc2 : ¬ (zc2 < (0 : Int32)) ∧ ¬ ((255 : Int32) < zc2) := by rw [hzc2]; exact own_m255 _
    have k8 : ∀ t, Steps p.tables e below (T3.setTop (mkF m 106 #[.val (.int p0_0), .val (.int p0_1), .val (.int p0_2), .val (.int p0_3), .val (.int (0 : Int32)), .val (.ref u_NUMBER), .val (.int zt), .val (.int zs), .val (.int zc1), .val (.int zc2), .unset, .unset, .unset, .unset, .unset, .unset, .unset, .unset] [(.int (((p0_1.toUInt32 >>> ((24 : Int32) &&& 31).toUInt32).toInt32) &&& (255 : Int32)))])) t → Steps p.tables e below (s₁.setTop (entryFrame m #[(.int p0_0), (.int p0_1), (.int p0_2), (.int p0_3)] maxLocals)) t := by
      intro t k
      refine k7 t ?_
      show Steps p.tables e below (T3.setTop (mkF m 96 #[.val (.int p0_0), .val (.int p0_1), .val (.int p0_2), .val (.int p0_3), .val (.int (0 : Int32)), .val (.ref u_NUMBER), .val (.int zt), .val (.int zs), .val (.int zc1), .unset, .unset, .unset, .unset, .unset, .unset, .unset, .unset, .unset] [(.int zc2)])) _
      refine XS.istore X3.here hx rfl (hb hby at_96) rfl (l' := #[.val (.int p0_0), .val (.int p0_1), .val (.int p0_2), .val (.int p0_3), .val (.int (0 : Int32)), .val (.ref u_NUMBER), .val (.int zt), .val (.int zs), .val (.int zc1), .val (.int zc2), .unset, .unset, .unset, .unset, .unset, .unset, .unset, .unset]) rfl ?_
      show Steps p.tables e below (T3.setTop (mkF m 98 #[.val (.int p0_0), .val (.int p0_1), .val (.int p0_2), .val (.int p0_3), .val (.int (0 : Int32)), .val (.ref u_NUMBER), .val (.int zt), .val (.int zs), .val (.int zc1), .val (.int zc2), .unset, .unset, .unset, .unset, .unset, .unset, .unset, .unset] [])) _
      refine XS.iloadN X3.here hx rfl (hb hby at_98) rfl ?_
      show Steps p.tables e below (T3.setTop (mkF m 99 #[.val (.int p0_0), .val (.int p0_1), .val (.int p0_2), .val (.int p0_3), .val (.int (0 : Int32)), .val (.ref u_NUMBER), .val (.int zt), .val (.int zs), .val (.int zc1), .val (.int zc2), .unset, .unset, .unset, .unset, .unset, .unset, .unset, .unset] [(.int p0_1)])) _
      refine XS.bipush X3.here hx rfl (hb hby at_99) ?_
      show Steps p.tables e below (T3.setTop (mkF m 101 #[.val (.int p0_0), .val (.int p0_1), .val (.int p0_2), .val (.int p0_3), .val (.int (0 : Int32)), .val (.ref u_NUMBER), .val (.int zt), .val (.int zs), .val (.int zc1), .val (.int zc2), .unset, .unset, .unset, .unset, .unset, .unset, .unset, .unset] [(.int (24 : Int32)), (.int p0_1)])) _
      refine XS.iushr X3.here hx rfl (hb hby at_101) rfl ?_
      show Steps p.tables e below (T3.setTop (mkF m 102 #[.val (.int p0_0), .val (.int p0_1), .val (.int p0_2), .val (.int p0_3), .val (.int (0 : Int32)), .val (.ref u_NUMBER), .val (.int zt), .val (.int zs), .val (.int zc1), .val (.int zc2), .unset, .unset, .unset, .unset, .unset, .unset, .unset, .unset] [(.int ((p0_1.toUInt32 >>> ((24 : Int32) &&& 31).toUInt32).toInt32))])) _
      refine XS.sipush X3.here hx rfl (hb hby at_102) ?_
      show Steps p.tables e below (T3.setTop (mkF m 105 #[.val (.int p0_0), .val (.int p0_1), .val (.int p0_2), .val (.int p0_3), .val (.int (0 : Int32)), .val (.ref u_NUMBER), .val (.int zt), .val (.int zs), .val (.int zc1), .val (.int zc2), .unset, .unset, .unset, .unset, .unset, .unset, .unset, .unset] [(.int (255 : Int32)), (.int ((p0_1.toUInt32 >>> ((24 : Int32) &&& 31).toUInt32).toInt32))])) _
      refine XS.iand X3.here hx rfl (hb hby at_105) rfl ?_
      exact k
    obtain ⟨zc3, hzc3⟩ : ∃ z, z = (((p0_1.toUInt32 >>> ((24 : Int32) &&& 31).toUInt32).toInt32) &&& (255 : Int32)) := ⟨_, rfl⟩
    rw [← hzc3] at k8
    have hr_zc3 : ¬ (zc3 < (0 : Int32)) ∧ ¬ ((255 : Int32) < zc3) := by rw [hzc3]; exact own_m255 _
    have k9 : ∀ t, Steps p.tables e below (T3.setTop (mkF m 116 #[.val (.int p0_0), .val (.int p0_1), .val (.int p0_2), .val (.int p0_3), .val (.int (0 : Int32)), .val (.ref u_NUMBER), .val (.int zt), .val (.int zs), .val (.int zc1), .val (.int zc2), .val (.int zc3), .unset, .unset, .unset, .unset, .unset, .unset, .unset] [(.int (((p0_2.toUInt32 >>> ((8 : Int32) &&& 31).toUInt32).toInt32) &&& (255 : Int32)))])) t → Steps p.tables e below (s₁.setTop (entryFrame m #[(.int p0_0), (.int p0_1), (.int p0_2), (.int p0_3)] maxLocals)) t := by
      intro t k
      refine k8 t ?_
      show Steps p.tables e below (T3.setTop (mkF m 106 #[.val (.int p0_0), .val (.int p0_1), .val (.int p0_2), .val (.int p0_3), .val (.int (0 : Int32)), .val (.ref u_NUMBER), .val (.int zt), .val (.int zs), .val (.int zc1), .val (.int zc2), .unset, .unset, .unset, .unset, .unset, .unset, .unset, .unset] [(.int zc3)])) _
      refine XS.istore X3.here hx rfl (hb hby at_106) rfl (l' := #[.val (.int p0_0), .val (.int p0_1), .val (.int p0_2), .val (.int p0_3), .val (.int (0 : Int32)), .val (.ref u_NUMBER), .val (.int zt), .val (.int zs), .val (.int zc1), .val (.int zc2), .val (.int zc3), .unset, .unset, .unset, .unset, .unset, .unset, .unset]) rfl ?_
      show Steps p.tables e below (T3.setTop (mkF m 108 #[.val (.int p0_0), .val (.int p0_1), .val (.int p0_2), .val (.int p0_3), .val (.int (0 : Int32)), .val (.ref u_NUMBER), .val (.int zt), .val (.int zs), .val (.int zc1), .val (.int zc2), .val (.int zc3), .unset, .unset, .unset, .unset, .unset, .unset, .unset] [])) _
      refine XS.iloadN X3.here hx rfl (hb hby at_108) rfl ?_
      show Steps p.tables e below (T3.setTop (mkF m 109 #[.val (.int p0_0), .val (.int p0_1), .val (.int p0_2), .val (.int p0_3), .val (.int (0 : Int32)), .val (.ref u_NUMBER), .val (.int zt), .val (.int zs), .val (.int zc1), .val (.int zc2), .val (.int zc3), .unset, .unset, .unset, .unset, .unset, .unset, .unset] [(.int p0_2)])) _
      refine XS.bipush X3.here hx rfl (hb hby at_109) ?_
      show Steps p.tables e below (T3.setTop (mkF m 111 #[.val (.int p0_0), .val (.int p0_1), .val (.int p0_2), .val (.int p0_3), .val (.int (0 : Int32)), .val (.ref u_NUMBER), .val (.int zt), .val (.int zs), .val (.int zc1), .val (.int zc2), .val (.int zc3), .unset, .unset, .unset, .unset, .unset, .unset, .unset] [(.int (8 : Int32)), (.int p0_2)])) _
      refine XS.iushr X3.here hx rfl (hb hby at_111) rfl ?_
      show Steps p.tables e below (T3.setTop (mkF m 112 #[.val (.int p0_0), .val (.int p0_1), .val (.int p0_2), .val (.int p0_3), .val (.int (0 : Int32)), .val (.ref u_NUMBER), .val (.int zt), .val (.int zs), .val (.int zc1), .val (.int zc2), .val (.int zc3), .unset, .unset, .unset, .unset, .unset, .unset, .unset] [(.int ((p0_2.toUInt32 >>> ((8 : Int32) &&& 31).toUInt32).toInt32))])) _
      refine XS.sipush X3.here hx rfl (hb hby at_112) ?_
      show Steps p.tables e below (T3.setTop (mkF m 115 #[.val (.int p0_0), .val (.int p0_1), .val (.int p0_2), .val (.int p0_3), .val (.int (0 : Int32)), .val (.ref u_NUMBER), .val (.int zt), .val (.int zs), .val (.int zc1), .val (.int zc2), .val (.int zc3), .unset, .unset, .unset, .unset, .unset, .unset, .unset] [(.int (255 : Int32)), (.int ((p0_2.toUInt32 >>> ((8 : Int32) &&& 31).toUInt32).toInt32))])) _
      refine XS.iand X3.here hx rfl (hb hby at_115) rfl ?_
      exact k
    obtain ⟨zd1, hzd1⟩ : ∃ z, z = (((p0_2.toUInt32 >>> ((8 : Int32) &&& 31).toUInt32).toInt32) &&& (255 : Int32)) := ⟨_, rfl⟩
    rw [← hzd1] at k9
    have hr_zd1 : ¬ (zd1 < (0 : Int32)) ∧ ¬ ((255 : Int32) < zd1) := by rw [hzd1]; exact own_m255 _
    have k10 : ∀ t, Steps p.tables e below (T3.setTop (mkF m 126 #[.val (.int p0_0), .val (.int p0_1), .val (.int p0_2), .val (.int p0_3), .val (.int (0 : Int32)), .val (.ref u_NUMBER), .val (.int zt), .val (.int zs), .val (.int zc1), .val (.int zc2), .val (.int zc3), .val (.int zd1), .unset, .unset, .unset, .unset, .unset, .unset] [(.int (((p0_2.toUInt32 >>> ((16 : Int32) &&& 31).toUInt32).toInt32) &&& (255 : Int32)))])) t → Steps p.tables e below (s₁.setTop (entryFrame m #[(.int p0_0), (.int p0_1), (.int p0_2), (.int p0_3)] maxLocals)) t := by
      intro t k
      refine k9 t ?_
      show Steps p.tables e below (T3.setTop (mkF m 116 #[.val (.int p0_0), .val (.int p0_1), .val (.int p0_2), .val (.int p0_3), .val (.int (0 : Int32)), .val (.ref u_NUMBER), .val (.int zt), .val (.int zs), .val (.int zc1), .val (.int zc2), .val (.int zc3), .unset, .unset, .unset, .unset, .unset, .unset, .unset] [(.int zd1)])) _
      refine XS.istore X3.here hx rfl (hb hby at_116) rfl (l' := #[.val (.int p0_0), .val (.int p0_1), .val (.int p0_2), .val (.int p0_3), .val (.int (0 : Int32)), .val (.ref u_NUMBER), .val (.int zt), .val (.int zs), .val (.int zc1), .val (.int zc2), .val (.int zc3), .val (.int zd1), .unset, .unset, .unset, .unset, .unset, .unset]) rfl ?_
      show Steps p.tables e below (T3.setTop (mkF m 118 #[.val (.int p0_0), .val (.int p0_1), .val (.int p0_2), .val (.int p0_3), .val (.int (0 : Int32)), .val (.ref u_NUMBER), .val (.int zt), .val (.int zs), .val (.int zc1), .val (.int zc2), .val (.int zc3), .val (.int zd1), .unset, .unset, .unset, .unset, .unset, .unset] [])) _
      refine XS.iloadN X3.here hx rfl (hb hby at_118) rfl ?_
      show Steps p.tables e below (T3.setTop (mkF m 119 #[.val (.int p0_0), .val (.int p0_1), .val (.int p0_2), .val (.int p0_3), .val (.int (0 : Int32)), .val (.ref u_NUMBER), .val (.int zt), .val (.int zs), .val (.int zc1), .val (.int zc2), .val (.int zc3), .val (.int zd1), .unset, .unset, .unset, .unset, .unset, .unset] [(.int p0_2)])) _
      refine XS.bipush X3.here hx rfl (hb hby at_119) ?_
      show Steps p.tables e below (T3.setTop (mkF m 121 #[.val (.int p0_0), .val (.int p0_1), .val (.int p0_2), .val (.int p0_3), .val (.int (0 : Int32)), .val (.ref u_NUMBER), .val (.int zt), .val (.int zs), .val (.int zc1), .val (.int zc2), .val (.int zc3), .val (.int zd1), .unset, .unset, .unset, .unset, .unset, .unset] [(.int (16 : Int32)), (.int p0_2)])) _
      refine XS.iushr X3.here hx rfl (hb hby at_121) rfl ?_
      show Steps p.tables e below (T3.setTop (mkF m 122 #[.val (.int p0_0), .val (.int p0_1), .val (.int p0_2), .val (.int p0_3), .val (.int (0 : Int32)), .val (.ref u_NUMBER), .val (.int zt), .val (.int zs), .val (.int zc1), .val (.int zc2), .val (.int zc3), .val (.int zd1), .unset, .unset, .unset, .unset, .unset, .unset] [(.int ((p0_2.toUInt32 >>> ((16 : Int32) &&& 31).toUInt32).toInt32))])) _
      refine XS.sipush X3.here hx rfl (hb hby at_122) ?_
      show Steps p.tables e below (T3.setTop (mkF m 125 #[.val (.int p0_0), .val (.int p0_1), .val (.int p0_2), .val (.int p0_3), .val (.int (0 : Int32)), .val (.ref u_NUMBER), .val (.int zt), .val (.int zs), .val (.int zc1), .val (.int zc2), .val (.int zc3), .val (.int zd1), .unset, .unset, .unset, .unset, .unset, .unset] [(.int (255 : Int32)), (.int ((p0_2.toUInt32 >>> ((16 : Int32) &&& 31).toUInt32).toInt32))])) _
      refine XS.iand X3.here hx rfl (hb hby at_125) rfl ?_
      exact k
    obtain ⟨zd2, hzd2⟩ : ∃ z, z = (((p0_2.toUInt32 >>> ((16 : Int32) &&& 31).toUInt32).toInt32) &&& (255 : Int32)) := ⟨_, rfl⟩
    rw [← hzd2] at k10
    have hr_zd2 : ¬ (zd2 < (0 : Int32)) ∧ ¬ ((255 : Int32) < zd2) := by rw [hzd2]; exact own_m255 _
    have k11 : ∀ t, Steps p.tables e below (T3.setTop (mkF m 136 #[.val (.int p0_0), .val (.int p0_1), .val (.int p0_2), .val (.int p0_3), .val (.int (0 : Int32)), .val (.ref u_NUMBER), .val (.int zt), .val (.int zs), .val (.int zc1), .val (.int zc2), .val (.int zc3), .val (.int zd1), .val (.int zd2), .unset, .unset, .unset, .unset, .unset] [(.int (((p0_2.toUInt32 >>> ((24 : Int32) &&& 31).toUInt32).toInt32) &&& (255 : Int32)))])) t → Steps p.tables e below (s₁.setTop (entryFrame m #[(.int p0_0), (.int p0_1), (.int p0_2), (.int p0_3)] maxLocals)) t := by
      intro t k
      refine k10 t ?_
      show Steps p.tables e below (T3.setTop (mkF m 126 #[.val (.int p0_0), .val (.int p0_1), .val (.int p0_2), .val (.int p0_3), .val (.int (0 : Int32)), .val (.ref u_NUMBER), .val (.int zt), .val (.int zs), .val (.int zc1), .val (.int zc2), .val (.int zc3), .val (.int zd1), .unset, .unset, .unset, .unset, .unset, .unset] [(.int zd2)])) _
      refine XS.istore X3.here hx rfl (hb hby at_126) rfl (l' := #[.val (.int p0_0), .val (.int p0_1), .val (.int p0_2), .val (.int p0_3), .val (.int (0 : Int32)), .val (.ref u_NUMBER), .val (.int zt), .val (.int zs), .val (.int zc1), .val (.int zc2), .val (.int zc3), .val (.int zd1), .val (.int zd2), .unset, .unset, .unset, .unset, .unset]) rfl ?_
      show Steps p.tables e below (T3.setTop (mkF m 128 #[.val (.int p0_0), .val (.int p0_1), .val (.int p0_2), .val (.int p0_3), .val (.int (0 : Int32)), .val (.ref u_NUMBER), .val (.int zt), .val (.int zs), .val (.int zc1), .val (.int zc2), .val (.int zc3), .val (.int zd1), .val (.int zd2), .unset, .unset, .unset, .unset, .unset] [])) _
      refine XS.iloadN X3.here hx rfl (hb hby at_128) rfl ?_
      show Steps p.tables e below (T3.setTop (mkF m 129 #[.val (.int p0_0), .val (.int p0_1), .val (.int p0_2), .val (.int p0_3), .val (.int (0 : Int32)), .val (.ref u_NUMBER), .val (.int zt), .val (.int zs), .val (.int zc1), .val (.int zc2), .val (.int zc3), .val (.int zd1), .val (.int zd2), .unset, .unset, .unset, .unset, .unset] [(.int p0_2)])) _
      refine XS.bipush X3.here hx rfl (hb hby at_129) ?_
      show Steps p.tables e below (T3.setTop (mkF m 131 #[.val (.int p0_0), .val (.int p0_1), .val (.int p0_2), .val (.int p0_3), .val (.int (0 : Int32)), .val (.ref u_NUMBER), .val (.int zt), .val (.int zs), .val (.int zc1), .val (.int zc2), .val (.int zc3), .val (.int zd1), .val (.int zd2), .unset, .unset, .unset, .unset, .unset] [(.int (24 : Int32)), (.int p0_2)])) _
      refine XS.iushr X3.here hx rfl (hb hby at_131) rfl ?_
      show Steps p.tables e below (T3.setTop (mkF m 132 #[.val (.int p0_0), .val (.int p0_1), .val (.int p0_2), .val (.int p0_3), .val (.int (0 : Int32)), .val (.ref u_NUMBER), .val (.int zt), .val (.int zs), .val (.int zc1), .val (.int zc2), .val (.int zc3), .val (.int zd1), .val (.int zd2), .unset, .unset, .unset, .unset, .unset] [(.int ((p0_2.toUInt32 >>> ((24 : Int32) &&& 31).toUInt32).toInt32))])) _
      refine XS.sipush X3.here hx rfl (hb hby at_132) ?_
      show Steps p.tables e below (T3.setTop (mkF m 135 #[.val (.int p0_0), .val (.int p0_1), .val (.int p0_2), .val (.int p0_3), .val (.int (0 : Int32)), .val (.ref u_NUMBER), .val (.int zt), .val (.int zs), .val (.int zc1), .val (.int zc2), .val (.int zc3), .val (.int zd1), .val (.int zd2), .unset, .unset, .unset, .unset, .unset] [(.int (255 : Int32)), (.int ((p0_2.toUInt32 >>> ((24 : Int32) &&& 31).toUInt32).toInt32))])) _
      refine XS.iand X3.here hx rfl (hb hby at_135) rfl ?_
      exact k
    obtain ⟨zd3, hzd3⟩ : ∃ z, z = (((p0_2.toUInt32 >>> ((24 : Int32) &&& 31).toUInt32).toInt32) &&& (255 : Int32)) := ⟨_, rfl⟩
    rw [← hzd3] at k11
    have hr_zd3 : ¬ (zd3 < (0 : Int32)) ∧ ¬ ((255 : Int32) < zd3) := by rw [hzd3]; exact own_m255 _
    have k12 : ∀ t, Steps p.tables e below (T3.setTop (mkF m 143 #[.val (.int p0_0), .val (.int p0_1), .val (.int p0_2), .val (.int p0_3), .val (.int (0 : Int32)), .val (.ref u_NUMBER), .val (.int zt), .val (.int zs), .val (.int zc1), .val (.int zc2), .val (.int zc3), .val (.int zd1), .val (.int zd2), .val (.int zd3), .unset, .unset, .unset, .unset] [(.int zc1.toUInt32.toUInt16.toUInt32.toInt32), (.int zt)])) t → Steps p.tables e below (s₁.setTop (entryFrame m #[(.int p0_0), (.int p0_1), (.int p0_2), (.int p0_3)] maxLocals)) t := by
      intro t k
      refine k11 t ?_
      show Steps p.tables e below (T3.setTop (mkF m 136 #[.val (.int p0_0), .val (.int p0_1), .val (.int p0_2), .val (.int p0_3), .val (.int (0 : Int32)), .val (.ref u_NUMBER), .val (.int zt), .val (.int zs), .val (.int zc1), .val (.int zc2), .val (.int zc3), .val (.int zd1), .val (.int zd2), .unset, .unset, .unset, .unset, .unset] [(.int zd3)])) _
      refine XS.istore X3.here hx rfl (hb hby at_136) rfl (l' := #[.val (.int p0_0), .val (.int p0_1), .val (.int p0_2), .val (.int p0_3), .val (.int (0 : Int32)), .val (.ref u_NUMBER), .val (.int zt), .val (.int zs), .val (.int zc1), .val (.int zc2), .val (.int zc3), .val (.int zd1), .val (.int zd2), .val (.int zd3), .unset, .unset, .unset, .unset]) rfl ?_
      show Steps p.tables e below (T3.setTop (mkF m 138 #[.val (.int p0_0), .val (.int p0_1), .val (.int p0_2), .val (.int p0_3), .val (.int (0 : Int32)), .val (.ref u_NUMBER), .val (.int zt), .val (.int zs), .val (.int zc1), .val (.int zc2), .val (.int zc3), .val (.int zd1), .val (.int zd2), .val (.int zd3), .unset, .unset, .unset, .unset] [])) _
      refine XS.iload X3.here hx rfl (hb hby at_138) rfl ?_
      show Steps p.tables e below (T3.setTop (mkF m 140 #[.val (.int p0_0), .val (.int p0_1), .val (.int p0_2), .val (.int p0_3), .val (.int (0 : Int32)), .val (.ref u_NUMBER), .val (.int zt), .val (.int zs), .val (.int zc1), .val (.int zc2), .val (.int zc3), .val (.int zd1), .val (.int zd2), .val (.int zd3), .unset, .unset, .unset, .unset] [(.int zt)])) _
      refine XS.iload X3.here hx rfl (hb hby at_140) rfl ?_
      show Steps p.tables e below (T3.setTop (mkF m 142 #[.val (.int p0_0), .val (.int p0_1), .val (.int p0_2), .val (.int p0_3), .val (.int (0 : Int32)), .val (.ref u_NUMBER), .val (.int zt), .val (.int zs), .val (.int zc1), .val (.int zc2), .val (.int zc3), .val (.int zd1), .val (.int zd2), .val (.int zd3), .unset, .unset, .unset, .unset] [(.int zc1), (.int zt)])) _
      refine XS.i2c X3.here hx rfl (hb hby at_142) rfl ?_
      exact k
    rw [show zc1.toUInt32.toUInt16.toUInt32.toInt32 = zc1 from own_i2c _ hr_zc1] at k12
    have k13 : ∀ t, Steps p.tables e below (T3.setTop (mkF m 146 #[.val (.int p0_0), .val (.int p0_1), .val (.int p0_2), .val (.int p0_3), .val (.int (0 : Int32)), .val (.ref u_NUMBER), .val (.int zt), .val (.int zs), .val (.int zc1), .val (.int zc2), .val (.int zc3), .val (.int zd1), .val (.int zd2), .val (.int zd3), .unset, .unset, .unset, .unset] [(.int zc2.toUInt32.toUInt16.toUInt32.toInt32), (.int zc1), (.int zt)])) t → Steps p.tables e below (s₁.setTop (entryFrame m #[(.int p0_0), (.int p0_1), (.int p0_2), (.int p0_3)] maxLocals)) t := by
      intro t k
      refine k12 t ?_
      show Steps p.tables e below (T3.setTop (mkF m 143 #[.val (.int p0_0), .val (.int p0_1), .val (.int p0_2), .val (.int p0_3), .val (.int (0 : Int32)), .val (.ref u_NUMBER), .val (.int zt), .val (.int zs), .val (.int zc1), .val (.int zc2), .val (.int zc3), .val (.int zd1), .val (.int zd2), .val (.int zd3), .unset, .unset, .unset, .unset] [(.int zc1), (.int zt)])) _
      refine XS.iload X3.here hx rfl (hb hby at_143) rfl ?_
      show Steps p.tables e below (T3.setTop (mkF m 145 #[.val (.int p0_0), .val (.int p0_1), .val (.int p0_2), .val (.int p0_3), .val (.int (0 : Int32)), .val (.ref u_NUMBER), .val (.int zt), .val (.int zs), .val (.int zc1), .val (.int zc2), .val (.int zc3), .val (.int zd1), .val (.int zd2), .val (.int zd3), .unset, .unset, .unset, .unset] [(.int zc2), (.int zc1), (.int zt)])) _
      refine XS.i2c X3.here hx rfl (hb hby at_145) rfl ?_
      exact k
    rw [show zc2.toUInt32.toUInt16.toUInt32.toInt32 = zc2 from own_i2c _ hr_zc2] at k13
    have k14 : ∀ t, Steps p.tables e below (T3.setTop (mkF m 149 #[.val (.int p0_0), .val (.int p0_1), .val (.int p0_2), .val (.int p0_3), .val (.int (0 : Int32)), .val (.ref u_NUMBER), .val (.int zt), .val (.int zs), .val (.int zc1), .val (.int zc2), .val (.int zc3), .val (.int zd1), .val (.int zd2), .val (.int zd3), .unset, .unset, .unset, .unset] [(.int zc3.toUInt32.toUInt16.toUInt32.toInt32), (.int zc2), (.int zc1), (.int zt)])) t → Steps p.tables e below (s₁.setTop (entryFrame m #[(.int p0_0), (.int p0_1), (.int p0_2), (.int p0_3)] maxLocals)) t := by
      intro t k
      refine k13 t ?_
      show Steps p.tables e below (T3.setTop (mkF m 146 #[.val (.int p0_0), .val (.int p0_1), .val (.int p0_2), .val (.int p0_3), .val (.int (0 : Int32)), .val (.ref u_NUMBER), .val (.int zt), .val (.int zs), .val (.int zc1), .val (.int zc2), .val (.int zc3), .val (.int zd1), .val (.int zd2), .val (.int zd3), .unset, .unset, .unset, .unset] [(.int zc2), (.int zc1), (.int zt)])) _
      refine XS.iload X3.here hx rfl (hb hby at_146) rfl ?_
      show Steps p.tables e below (T3.setTop (mkF m 148 #[.val (.int p0_0), .val (.int p0_1), .val (.int p0_2), .val (.int p0_3), .val (.int (0 : Int32)), .val (.ref u_NUMBER), .val (.int zt), .val (.int zs), .val (.int zc1), .val (.int zc2), .val (.int zc3), .val (.int zd1), .val (.int zd2), .val (.int zd3), .unset, .unset, .unset, .unset] [(.int zc3), (.int zc2), (.int zc1), (.int zt)])) _
      refine XS.i2c X3.here hx rfl (hb hby at_148) rfl ?_
      exact k
    rw [show zc3.toUInt32.toUInt16.toUInt32.toInt32 = zc3 from own_i2c _ hr_zc3] at k14
    obtain ⟨_, _, ⟨T15, L15, k15, n15⟩, -, X15, hS2, hg2, ⟨Lc15, hQ15, l15, y15, z15, hC15⟩, st15⟩ := callSS X3 hx (y := (⟨"com/example/oyster/oyster/engine/TokenIsSymbolPinLaw", "make", "(ICCC)Ljava/lang/String;"⟩ : MethodName)) hown (mvT hZ (hw _ (List.mem_of_getElem? (i := 4) rfl))) (mvT hZ (hw _ (List.mem_of_getElem? (i := 5) rfl))) (mvT hZ (hw _ (List.mem_of_getElem? (i := 6) rfl))) (mvT hZ (hw _ (List.mem_of_getElem? (i := 7) rfl))) (by decide) (backOfSH (W := 0) (rm3 l Z a0 hw [] hEL wS zt zc1 zc2 zc3 cs h0 n0 Z0 Sc hcs hr_zc1.1 hr_zc1.2 hr_zc2.1 hr_zc2.2 hr_zc3.1 hr_zc3.2) hZ (hw _ (List.mem_of_getElem? (i := 7) rfl)) (hw _ (List.mem_of_getElem? (i := 6) rfl)) (by decide) (by decide) hEL hCR.1) (g := (mkF m 149 #[.val (.int p0_0), .val (.int p0_1), .val (.int p0_2), .val (.int p0_3), .val (.int (0 : Int32)), .val (.ref u_NUMBER), .val (.int zt), .val (.int zs), .val (.int zc1), .val (.int zc2), .val (.int zc3), .val (.int zd1), .val (.int zd2), .val (.int zd3), .unset, .unset, .unset, .unset] [(.int zc3), (.int zc2), (.int zc1), (.int zt)])) rfl (by rw [hml]; rfl) (argsL := [(.int zt), (.int zc1), (.int zc2), (.int zc3)]) (rest := []) (lenOf pd_4 rfl) rfl (by show 2 * 0 + _ ≤ _; exact Nat.le_of_eq rfl) (hb hby at_149) (fun _ _ => ⟨rfl, e3, (by decide : 0 + 6 ≤ _), (by decide : 0 + 12 ≤ _)⟩)
    dsimp only [Pt.U, Pt.locs, Pt.cells, Pt.slots] at X15 hS2 hg2 hC15 l15 y15 z15 st15 hQ15
    subst l15 y15 z15
    obtain ⟨X15, hS, hZ, hown⟩ := rebS hS (by rw [e3]; exact hk) X15 hS2 hg2 hZ hown
    have hk := Nat.le_refl T15.heap.size
    have hCR := hCR.trans hC15
    obtain ⟨x3_15, d3_15, kv3_15, rfl, N15q, Kc15, ggx3_15, szx3_15, G15_0, G15_1, G15_2, G15_3⟩ := hQ15
    have ne16 : u_NUMBER ≠ x3_15 := Nat.ne_of_lt (Nat.lt_of_lt_of_le E_u_NUMBER.lt szx3_15)
    have ne17 : u_SYMBOL ≠ x3_15 := Nat.ne_of_lt (Nat.lt_of_lt_of_le E_u_SYMBOL.lt szx3_15)
    have ne18 : u_NAME ≠ x3_15 := Nat.ne_of_lt (Nat.lt_of_lt_of_le E_u_NAME.lt szx3_15)
    have ne19 : u_END ≠ x3_15 := Nat.ne_of_lt (Nat.lt_of_lt_of_le E_u_END.lt szx3_15)
    have ne20 : u_STRING ≠ x3_15 := Nat.ne_of_lt (Nat.lt_of_lt_of_le E_u_STRING.lt szx3_15)
    have Zs15 : n0 ≤ T15.heap.size := Nat.le_trans Z0 Kc15.1
    have F21 : Sta Z T15.heap "com/example/oyster/oyster/engine/Tokens$Kind" "NUMBER" "Lcom/example/oyster/oyster/engine/Tokens$Kind;" (.ref u_NUMBER) := own_stakeep S_NUMBER Kc15 all0
    have F22 : Exa Z T15.heap u_NUMBER "com/example/oyster/oyster/engine/Tokens$Kind" := E_u_NUMBER.keep Kc15
    have F23 : Sta Z T15.heap "com/example/oyster/oyster/engine/Tokens$Kind" "SYMBOL" "Lcom/example/oyster/oyster/engine/Tokens$Kind;" (.ref u_SYMBOL) := own_stakeep S_SYMBOL Kc15 all0
    have F24 : Exa Z T15.heap u_SYMBOL "com/example/oyster/oyster/engine/Tokens$Kind" := E_u_SYMBOL.keep Kc15
    have F25 : Fld Z T15.heap u_NUMBER "java/lang/Enum" "ordinal" "I" (.int (0 : Int32)) := F_u_NUMBER_ordinal.keep Kc15 nin0
    have F26 : Fld Z T15.heap u_SYMBOL "java/lang/Enum" "ordinal" "I" (.int (3 : Int32)) := F_u_SYMBOL_ordinal.keep Kc15 nin0
    have F27 : Sta Z T15.heap "com/example/oyster/oyster/engine/Tokens$Kind" "NAME" "Lcom/example/oyster/oyster/engine/Tokens$Kind;" (.ref u_NAME) := own_stakeep S_NAME Kc15 all0
    have F28 : Exa Z T15.heap u_NAME "com/example/oyster/oyster/engine/Tokens$Kind" := E_u_NAME.keep Kc15
    have F29 : Fld Z T15.heap u_NAME "java/lang/Enum" "ordinal" "I" (.int (2 : Int32)) := F_u_NAME_ordinal.keep Kc15 nin0
    have F30 : Sta Z T15.heap "com/example/oyster/oyster/engine/Tokens$Kind" "END" "Lcom/example/oyster/oyster/engine/Tokens$Kind;" (.ref u_END) := own_stakeep S_END Kc15 all0
    have F31 : Exa Z T15.heap u_END "com/example/oyster/oyster/engine/Tokens$Kind" := E_u_END.keep Kc15
    have F32 : Fld Z T15.heap u_END "java/lang/Enum" "ordinal" "I" (.int (4 : Int32)) := F_u_END_ordinal.keep Kc15 nin0
    have F33 : Sta Z T15.heap "com/example/oyster/oyster/engine/Tokens$Kind" "STRING" "Lcom/example/oyster/oyster/engine/Tokens$Kind;" (.ref u_STRING) := own_stakeep S_STRING Kc15 all0
    have F34 : Exa Z T15.heap u_STRING "com/example/oyster/oyster/engine/Tokens$Kind" := E_u_STRING.keep Kc15
    have F35 : Fld Z T15.heap u_STRING "java/lang/Enum" "ordinal" "I" (.int (1 : Int32)) := F_u_STRING_ordinal.keep Kc15 nin0
    have F36 : Sta Z T15.heap "java/lang/String" "COMPACT_STRINGS" "Z" (.int cs) := own_stakeep Sc Kc15 all0
    have N15 := Fr.app N0 N15q
    have k37 : ∀ t, Steps p.tables e below (T15.setTop (mkF m 161 #[.val (.int p0_0), .val (.int p0_1), .val (.int p0_2), .val (.int p0_3), .val (.int (0 : Int32)), .val (.ref u_NUMBER), .val (.int zt), .val (.int zs), .val (.int zc1), .val (.int zc2), .val (.int zc3), .val (.int zd1), .val (.int zd2), .val (.int zd3), .val (.ref x3_15), .unset, .unset, .unset] [(.int (zc1 ^^^ zd1)), (.int zs)])) t → Steps p.tables e below (s₁.setTop (entryFrame m #[(.int p0_0), (.int p0_1), (.int p0_2), (.int p0_3)] maxLocals)) t := by
      intro t k
      refine k14 t ?_
      show Steps p.tables e below (T3.setTop (mkF m 149 #[.val (.int p0_0), .val (.int p0_1), .val (.int p0_2), .val (.int p0_3), .val (.int (0 : Int32)), .val (.ref u_NUMBER), .val (.int zt), .val (.int zs), .val (.int zc1), .val (.int zc2), .val (.int zc3), .val (.int zd1), .val (.int zd2), .val (.int zd3), .unset, .unset, .unset, .unset] [(.int zc3), (.int zc2), (.int zc1), (.int zt)])) _
      refine st15.trans ?_
      show Steps p.tables e below (T15.setTop (mkF m 152 #[.val (.int p0_0), .val (.int p0_1), .val (.int p0_2), .val (.int p0_3), .val (.int (0 : Int32)), .val (.ref u_NUMBER), .val (.int zt), .val (.int zs), .val (.int zc1), .val (.int zc2), .val (.int zc3), .val (.int zd1), .val (.int zd2), .val (.int zd3), .unset, .unset, .unset, .unset] [(.ref x3_15)])) _
      refine XS.astore X15.here hx rfl (hb hby at_152) rfl rfl (l' := #[.val (.int p0_0), .val (.int p0_1), .val (.int p0_2), .val (.int p0_3), .val (.int (0 : Int32)), .val (.ref u_NUMBER), .val (.int zt), .val (.int zs), .val (.int zc1), .val (.int zc2), .val (.int zc3), .val (.int zd1), .val (.int zd2), .val (.int zd3), .val (.ref x3_15), .unset, .unset, .unset]) rfl ?_
      show Steps p.tables e below (T15.setTop (mkF m 154 #[.val (.int p0_0), .val (.int p0_1), .val (.int p0_2), .val (.int p0_3), .val (.int (0 : Int32)), .val (.ref u_NUMBER), .val (.int zt), .val (.int zs), .val (.int zc1), .val (.int zc2), .val (.int zc3), .val (.int zd1), .val (.int zd2), .val (.int zd3), .val (.ref x3_15), .unset, .unset, .unset] [])) _
      refine XS.iload X15.here hx rfl (hb hby at_154) rfl ?_
      show Steps p.tables e below (T15.setTop (mkF m 156 #[.val (.int p0_0), .val (.int p0_1), .val (.int p0_2), .val (.int p0_3), .val (.int (0 : Int32)), .val (.ref u_NUMBER), .val (.int zt), .val (.int zs), .val (.int zc1), .val (.int zc2), .val (.int zc3), .val (.int zd1), .val (.int zd2), .val (.int zd3), .val (.ref x3_15), .unset, .unset, .unset] [(.int zs)])) _
      refine XS.iload X15.here hx rfl (hb hby at_156) rfl ?_
      show Steps p.tables e below (T15.setTop (mkF m 158 #[.val (.int p0_0), .val (.int p0_1), .val (.int p0_2), .val (.int p0_3), .val (.int (0 : Int32)), .val (.ref u_NUMBER), .val (.int zt), .val (.int zs), .val (.int zc1), .val (.int zc2), .val (.int zc3), .val (.int zd1), .val (.int zd2), .val (.int zd3), .val (.ref x3_15), .unset, .unset, .unset] [(.int zc1), (.int zs)])) _
      refine XS.iload X15.here hx rfl (hb hby at_158) rfl ?_
      show Steps p.tables e below (T15.setTop (mkF m 160 #[.val (.int p0_0), .val (.int p0_1), .val (.int p0_2), .val (.int p0_3), .val (.int (0 : Int32)), .val (.ref u_NUMBER), .val (.int zt), .val (.int zs), .val (.int zc1), .val (.int zc2), .val (.int zc3), .val (.int zd1), .val (.int zd2), .val (.int zd3), .val (.ref x3_15), .unset, .unset, .unset] [(.int zd1), (.int zc1), (.int zs)])) _
      refine XS.ixor X15.here hx rfl (hb hby at_160) rfl ?_
      exact k
    obtain ⟨zx1, hzx1⟩ : ∃ z, z = (zc1 ^^^ zd1) := ⟨_, rfl⟩
    rw [← hzx1] at k37
    have hr_zx1 : ¬ (zx1 < (0 : Int32)) ∧ ¬ ((255 : Int32) < zx1) := by rw [hzx1]; exact own_xorr _ _ hr_zc1 hr_zd1
    have k38 : ∀ t, Steps p.tables e below (T15.setTop (mkF m 162 #[.val (.int p0_0), .val (.int p0_1), .val (.int p0_2), .val (.int p0_3), .val (.int (0 : Int32)), .val (.ref u_NUMBER), .val (.int zt), .val (.int zs), .val (.int zc1), .val (.int zc2), .val (.int zc3), .val (.int zd1), .val (.int zd2), .val (.int zd3), .val (.ref x3_15), .unset, .unset, .unset] [(.int zx1.toUInt32.toUInt16.toUInt32.toInt32), (.int zs)])) t → Steps p.tables e below (s₁.setTop (entryFrame m #[(.int p0_0), (.int p0_1), (.int p0_2), (.int p0_3)] maxLocals)) t := by
      intro t k
      refine k37 t ?_
      show Steps p.tables e below (T15.setTop (mkF m 161 #[.val (.int p0_0), .val (.int p0_1), .val (.int p0_2), .val (.int p0_3), .val (.int (0 : Int32)), .val (.ref u_NUMBER), .val (.int zt), .val (.int zs), .val (.int zc1), .val (.int zc2), .val (.int zc3), .val (.int zd1), .val (.int zd2), .val (.int zd3), .val (.ref x3_15), .unset, .unset, .unset] [(.int zx1), (.int zs)])) _
      refine XS.i2c X15.here hx rfl (hb hby at_161) rfl ?_
      exact k
    rw [show zx1.toUInt32.toUInt16.toUInt32.toInt32 = zx1 from own_i2c _ hr_zx1] at k38
    have k39 : ∀ t, Steps p.tables e below (T15.setTop (mkF m 167 #[.val (.int p0_0), .val (.int p0_1), .val (.int p0_2), .val (.int p0_3), .val (.int (0 : Int32)), .val (.ref u_NUMBER), .val (.int zt), .val (.int zs), .val (.int zc1), .val (.int zc2), .val (.int zc3), .val (.int zd1), .val (.int zd2), .val (.int zd3), .val (.ref x3_15), .unset, .unset, .unset] [(.int (zc2 ^^^ zd2)), (.int zx1), (.int zs)])) t → Steps p.tables e below (s₁.setTop (entryFrame m #[(.int p0_0), (.int p0_1), (.int p0_2), (.int p0_3)] maxLocals)) t := by
      intro t k
      refine k38 t ?_
      show Steps p.tables e below (T15.setTop (mkF m 162 #[.val (.int p0_0), .val (.int p0_1), .val (.int p0_2), .val (.int p0_3), .val (.int (0 : Int32)), .val (.ref u_NUMBER), .val (.int zt), .val (.int zs), .val (.int zc1), .val (.int zc2), .val (.int zc3), .val (.int zd1), .val (.int zd2), .val (.int zd3), .val (.ref x3_15), .unset, .unset, .unset] [(.int zx1), (.int zs)])) _
      refine XS.iload X15.here hx rfl (hb hby at_162) rfl ?_
      show Steps p.tables e below (T15.setTop (mkF m 164 #[.val (.int p0_0), .val (.int p0_1), .val (.int p0_2), .val (.int p0_3), .val (.int (0 : Int32)), .val (.ref u_NUMBER), .val (.int zt), .val (.int zs), .val (.int zc1), .val (.int zc2), .val (.int zc3), .val (.int zd1), .val (.int zd2), .val (.int zd3), .val (.ref x3_15), .unset, .unset, .unset] [(.int zc2), (.int zx1), (.int zs)])) _
      refine XS.iload X15.here hx rfl (hb hby at_164) rfl ?_
      show Steps p.tables e below (T15.setTop (mkF m 166 #[.val (.int p0_0), .val (.int p0_1), .val (.int p0_2), .val (.int p0_3), .val (.int (0 : Int32)), .val (.ref u_NUMBER), .val (.int zt), .val (.int zs), .val (.int zc1), .val (.int zc2), .val (.int zc3), .val (.int zd1), .val (.int zd2), .val (.int zd3), .val (.ref x3_15), .unset, .unset, .unset] [(.int zd2), (.int zc2), (.int zx1), (.int zs)])) _
      refine XS.ixor X15.here hx rfl (hb hby at_166) rfl ?_
      exact k
    obtain ⟨zx2, hzx2⟩ : ∃ z, z = (zc2 ^^^ zd2) := ⟨_, rfl⟩
    rw [← hzx2] at k39
    have hr_zx2 : ¬ (zx2 < (0 : Int32)) ∧ ¬ ((255 : Int32) < zx2) := by rw [hzx2]; exact own_xorr _ _ hr_zc2 hr_zd2
    have k40 : ∀ t, Steps p.tables e below (T15.setTop (mkF m 168 #[.val (.int p0_0), .val (.int p0_1), .val (.int p0_2), .val (.int p0_3), .val (.int (0 : Int32)), .val (.ref u_NUMBER), .val (.int zt), .val (.int zs), .val (.int zc1), .val (.int zc2), .val (.int zc3), .val (.int zd1), .val (.int zd2), .val (.int zd3), .val (.ref x3_15), .unset, .unset, .unset] [(.int zx2.toUInt32.toUInt16.toUInt32.toInt32), (.int zx1), (.int zs)])) t → Steps p.tables e below (s₁.setTop (entryFrame m #[(.int p0_0), (.int p0_1), (.int p0_2), (.int p0_3)] maxLocals)) t := by
      intro t k
      refine k39 t ?_
      show Steps p.tables e below (T15.setTop (mkF m 167 #[.val (.int p0_0), .val (.int p0_1), .val (.int p0_2), .val (.int p0_3), .val (.int (0 : Int32)), .val (.ref u_NUMBER), .val (.int zt), .val (.int zs), .val (.int zc1), .val (.int zc2), .val (.int zc3), .val (.int zd1), .val (.int zd2), .val (.int zd3), .val (.ref x3_15), .unset, .unset, .unset] [(.int zx2), (.int zx1), (.int zs)])) _
      refine XS.i2c X15.here hx rfl (hb hby at_167) rfl ?_
      exact k
    rw [show zx2.toUInt32.toUInt16.toUInt32.toInt32 = zx2 from own_i2c _ hr_zx2] at k40
    have k41 : ∀ t, Steps p.tables e below (T15.setTop (mkF m 173 #[.val (.int p0_0), .val (.int p0_1), .val (.int p0_2), .val (.int p0_3), .val (.int (0 : Int32)), .val (.ref u_NUMBER), .val (.int zt), .val (.int zs), .val (.int zc1), .val (.int zc2), .val (.int zc3), .val (.int zd1), .val (.int zd2), .val (.int zd3), .val (.ref x3_15), .unset, .unset, .unset] [(.int (zc3 ^^^ zd3)), (.int zx2), (.int zx1), (.int zs)])) t → Steps p.tables e below (s₁.setTop (entryFrame m #[(.int p0_0), (.int p0_1), (.int p0_2), (.int p0_3)] maxLocals)) t := by
      intro t k
      refine k40 t ?_
      show Steps p.tables e below (T15.setTop (mkF m 168 #[.val (.int p0_0), .val (.int p0_1), .val (.int p0_2), .val (.int p0_3), .val (.int (0 : Int32)), .val (.ref u_NUMBER), .val (.int zt), .val (.int zs), .val (.int zc1), .val (.int zc2), .val (.int zc3), .val (.int zd1), .val (.int zd2), .val (.int zd3), .val (.ref x3_15), .unset, .unset, .unset] [(.int zx2), (.int zx1), (.int zs)])) _
      refine XS.iload X15.here hx rfl (hb hby at_168) rfl ?_
      show Steps p.tables e below (T15.setTop (mkF m 170 #[.val (.int p0_0), .val (.int p0_1), .val (.int p0_2), .val (.int p0_3), .val (.int (0 : Int32)), .val (.ref u_NUMBER), .val (.int zt), .val (.int zs), .val (.int zc1), .val (.int zc2), .val (.int zc3), .val (.int zd1), .val (.int zd2), .val (.int zd3), .val (.ref x3_15), .unset, .unset, .unset] [(.int zc3), (.int zx2), (.int zx1), (.int zs)])) _
      refine XS.iload X15.here hx rfl (hb hby at_170) rfl ?_
      show Steps p.tables e below (T15.setTop (mkF m 172 #[.val (.int p0_0), .val (.int p0_1), .val (.int p0_2), .val (.int p0_3), .val (.int (0 : Int32)), .val (.ref u_NUMBER), .val (.int zt), .val (.int zs), .val (.int zc1), .val (.int zc2), .val (.int zc3), .val (.int zd1), .val (.int zd2), .val (.int zd3), .val (.ref x3_15), .unset, .unset, .unset] [(.int zd3), (.int zc3), (.int zx2), (.int zx1), (.int zs)])) _
      refine XS.ixor X15.here hx rfl (hb hby at_172) rfl ?_
      exact k
    obtain ⟨zx3, hzx3⟩ : ∃ z, z = (zc3 ^^^ zd3) := ⟨_, rfl⟩
    rw [← hzx3] at k41
    have hr_zx3 : ¬ (zx3 < (0 : Int32)) ∧ ¬ ((255 : Int32) < zx3) := by rw [hzx3]; exact own_xorr _ _ hr_zc3 hr_zd3
    have k42 : ∀ t, Steps p.tables e below (T15.setTop (mkF m 174 #[.val (.int p0_0), .val (.int p0_1), .val (.int p0_2), .val (.int p0_3), .val (.int (0 : Int32)), .val (.ref u_NUMBER), .val (.int zt), .val (.int zs), .val (.int zc1), .val (.int zc2), .val (.int zc3), .val (.int zd1), .val (.int zd2), .val (.int zd3), .val (.ref x3_15), .unset, .unset, .unset] [(.int zx3.toUInt32.toUInt16.toUInt32.toInt32), (.int zx2), (.int zx1), (.int zs)])) t → Steps p.tables e below (s₁.setTop (entryFrame m #[(.int p0_0), (.int p0_1), (.int p0_2), (.int p0_3)] maxLocals)) t := by
      intro t k
      refine k41 t ?_
      show Steps p.tables e below (T15.setTop (mkF m 173 #[.val (.int p0_0), .val (.int p0_1), .val (.int p0_2), .val (.int p0_3), .val (.int (0 : Int32)), .val (.ref u_NUMBER), .val (.int zt), .val (.int zs), .val (.int zc1), .val (.int zc2), .val (.int zc3), .val (.int zd1), .val (.int zd2), .val (.int zd3), .val (.ref x3_15), .unset, .unset, .unset] [(.int zx3), (.int zx2), (.int zx1), (.int zs)])) _
      refine XS.i2c X15.here hx rfl (hb hby at_173) rfl ?_
      exact k
    rw [show zx3.toUInt32.toUInt16.toUInt32.toInt32 = zx3 from own_i2c _ hr_zx3] at k42
    obtain ⟨_, _, ⟨T43, L43, k43, n43⟩, -, X43, hS2, hg2, ⟨Lc43, hQ43, l43, y43, z43, hC43⟩, st43⟩ := callSS X15 hx (y := (⟨"com/example/oyster/oyster/engine/TokenIsSymbolPinLaw", "make", "(ICCC)Ljava/lang/String;"⟩ : MethodName)) hown (mvT hZ (hw _ (List.mem_of_getElem? (i := 4) rfl))) (mvT hZ (hw _ (List.mem_of_getElem? (i := 5) rfl))) (mvT hZ (hw _ (List.mem_of_getElem? (i := 6) rfl))) (mvT hZ (hw _ (List.mem_of_getElem? (i := 7) rfl))) (by decide) (backOfSH (W := 0) (rm3 l Z a0 hw [] hEL wS zs zx1 zx2 zx3 cs T15.heap n0 Zs15 F36 hcs hr_zx1.1 hr_zx1.2 hr_zx2.1 hr_zx2.2 hr_zx3.1 hr_zx3.2) hZ (hw _ (List.mem_of_getElem? (i := 7) rfl)) (hw _ (List.mem_of_getElem? (i := 6) rfl)) (by decide) (by decide) hEL hCR.1) (g := (mkF m 174 #[.val (.int p0_0), .val (.int p0_1), .val (.int p0_2), .val (.int p0_3), .val (.int (0 : Int32)), .val (.ref u_NUMBER), .val (.int zt), .val (.int zs), .val (.int zc1), .val (.int zc2), .val (.int zc3), .val (.int zd1), .val (.int zd2), .val (.int zd3), .val (.ref x3_15), .unset, .unset, .unset] [(.int zx3), (.int zx2), (.int zx1), (.int zs)])) rfl (by rw [hml]; rfl) (argsL := [(.int zs), (.int zx1), (.int zx2), (.int zx3)]) (rest := []) (lenOf pd_4 rfl) rfl (by show 2 * 0 + _ ≤ _; exact Nat.le_of_eq rfl) (hb hby at_174) (fun _ _ => ⟨rfl, rfl, (by decide : 6 + 6 ≤ _), (by decide : 12 + 12 ≤ _)⟩)
    dsimp only [Pt.U, Pt.locs, Pt.cells, Pt.slots] at X43 hS2 hg2 hC43 l43 y43 z43 st43 hQ43
    subst l43 y43 z43
    obtain ⟨X43, hS, hZ, hown⟩ := rebS hS hk X43 hS2 hg2 hZ hown
    have hk := Nat.le_refl T43.heap.size
    have hCR := hCR.trans hC43
    obtain ⟨x3_43, d3_43, kv3_43, rfl, N43q, Kc43, ggx3_43, szx3_43, G43_0, G43_1, G43_2, G43_3⟩ := hQ43
    have ne44 : u_NUMBER ≠ x3_43 := Nat.ne_of_lt (Nat.lt_of_lt_of_le F22.lt szx3_43)
    have ne45 : u_SYMBOL ≠ x3_43 := Nat.ne_of_lt (Nat.lt_of_lt_of_le F24.lt szx3_43)
    have ne46 : u_NAME ≠ x3_43 := Nat.ne_of_lt (Nat.lt_of_lt_of_le F28.lt szx3_43)
    have ne47 : u_END ≠ x3_43 := Nat.ne_of_lt (Nat.lt_of_lt_of_le F31.lt szx3_43)
    have ne48 : u_STRING ≠ x3_43 := Nat.ne_of_lt (Nat.lt_of_lt_of_le F34.lt szx3_43)
    have ne49 : x3_15 ≠ x3_43 := Nat.ne_of_lt (Nat.lt_of_lt_of_le G15_0.lt szx3_43)
    have ne50 : d3_15 ≠ x3_43 := Nat.ne_of_lt (Nat.lt_of_lt_of_le G15_3.lt szx3_43)
    have Zs43 : n0 ≤ T43.heap.size := Nat.le_trans Zs15 Kc43.1
    have F51 : Sta Z T43.heap "com/example/oyster/oyster/engine/Tokens$Kind" "NUMBER" "Lcom/example/oyster/oyster/engine/Tokens$Kind;" (.ref u_NUMBER) := own_stakeep F21 Kc43 all0
    have F52 : Exa Z T43.heap u_NUMBER "com/example/oyster/oyster/engine/Tokens$Kind" := F22.keep Kc43
    have F53 : Sta Z T43.heap "com/example/oyster/oyster/engine/Tokens$Kind" "SYMBOL" "Lcom/example/oyster/oyster/engine/Tokens$Kind;" (.ref u_SYMBOL) := own_stakeep F23 Kc43 all0
    have F54 : Exa Z T43.heap u_SYMBOL "com/example/oyster/oyster/engine/Tokens$Kind" := F24.keep Kc43
    have F55 : Fld Z T43.heap u_NUMBER "java/lang/Enum" "ordinal" "I" (.int (0 : Int32)) := F25.keep Kc43 nin0
    have F56 : Fld Z T43.heap u_SYMBOL "java/lang/Enum" "ordinal" "I" (.int (3 : Int32)) := F26.keep Kc43 nin0
    have F57 : Sta Z T43.heap "com/example/oyster/oyster/engine/Tokens$Kind" "NAME" "Lcom/example/oyster/oyster/engine/Tokens$Kind;" (.ref u_NAME) := own_stakeep F27 Kc43 all0
    have F58 : Exa Z T43.heap u_NAME "com/example/oyster/oyster/engine/Tokens$Kind" := F28.keep Kc43
    have F59 : Fld Z T43.heap u_NAME "java/lang/Enum" "ordinal" "I" (.int (2 : Int32)) := F29.keep Kc43 nin0
    have F60 : Sta Z T43.heap "com/example/oyster/oyster/engine/Tokens$Kind" "END" "Lcom/example/oyster/oyster/engine/Tokens$Kind;" (.ref u_END) := own_stakeep F30 Kc43 all0
    have F61 : Exa Z T43.heap u_END "com/example/oyster/oyster/engine/Tokens$Kind" := F31.keep Kc43
    have F62 : Fld Z T43.heap u_END "java/lang/Enum" "ordinal" "I" (.int (4 : Int32)) := F32.keep Kc43 nin0
    have F63 : Sta Z T43.heap "com/example/oyster/oyster/engine/Tokens$Kind" "STRING" "Lcom/example/oyster/oyster/engine/Tokens$Kind;" (.ref u_STRING) := own_stakeep F33 Kc43 all0
    have F64 : Exa Z T43.heap u_STRING "com/example/oyster/oyster/engine/Tokens$Kind" := F34.keep Kc43
    have F65 : Fld Z T43.heap u_STRING "java/lang/Enum" "ordinal" "I" (.int (1 : Int32)) := F35.keep Kc43 nin0
    have F66 : Sta Z T43.heap "java/lang/String" "COMPACT_STRINGS" "Z" (.int cs) := own_stakeep F36 Kc43 all0
    have F67 : Exa Z T43.heap x3_15 "java/lang/String" := G15_0.keep Kc43
    have F68 : Fld Z T43.heap x3_15 "java/lang/String" "value" "[B" (.ref d3_15) := G15_1.keep Kc43 nin0
    have F69 : Fld Z T43.heap x3_15 "java/lang/String" "coder" "B" (.int (0 : Int32)) := G15_2.keep Kc43 nin0
    have F70 : Arv Z T43.heap d3_15 kv3_15 .byte (Int32.ofNat (own_mk zt zc1 zc2 zc3).length) (List.map Value.int (List.map (fun c => c.toInt8.toInt32) (own_mk zt zc1 zc2 zc3))) (.int (0 : Int32)) := G15_3.keep Kc43 nin0
    have N43 := Fr.app N15 N43q
    obtain ⟨b71, g71⟩ : ∃ z, z = T43.heap.size := ⟨_, rfl⟩
    obtain ⟨T71, h71, X71, e71, E71, A71, D71, -, st71⟩ := newO X43 hx hZ hown (hw _ (List.mem_of_getElem? (i := 38) rfl)) (hw _ (List.mem_of_getElem? (i := 39) rfl)) (hw _ (List.mem_of_getElem? (i := 40) rfl)) rfl (g := (mkF m 179 #[.val (.int p0_0), .val (.int p0_1), .val (.int p0_2), .val (.int p0_3), .val (.int (0 : Int32)), .val (.ref u_NUMBER), .val (.int zt), .val (.int zs), .val (.int zc1), .val (.int zc2), .val (.int zc3), .val (.int zd1), .val (.int zd2), .val (.int zd3), .val (.ref x3_15), .val (.ref x3_43), .unset, .unset] [])) rfl (hb hby at_179) (by decide) (by decide)
    rw [← g71] at A71 D71 st71
    have ne72 : u_NUMBER ≠ b71 := Nat.ne_of_lt (Nat.lt_of_lt_of_le F52.lt (Nat.le_of_eq g71.symm))
    have ne73 : u_SYMBOL ≠ b71 := Nat.ne_of_lt (Nat.lt_of_lt_of_le F54.lt (Nat.le_of_eq g71.symm))
    have ne74 : u_NAME ≠ b71 := Nat.ne_of_lt (Nat.lt_of_lt_of_le F58.lt (Nat.le_of_eq g71.symm))
    have ne75 : u_END ≠ b71 := Nat.ne_of_lt (Nat.lt_of_lt_of_le F61.lt (Nat.le_of_eq g71.symm))
    have ne76 : u_STRING ≠ b71 := Nat.ne_of_lt (Nat.lt_of_lt_of_le F64.lt (Nat.le_of_eq g71.symm))
    have ne77 : x3_15 ≠ b71 := Nat.ne_of_lt (Nat.lt_of_lt_of_le F67.lt (Nat.le_of_eq g71.symm))
    have ne78 : d3_15 ≠ b71 := Nat.ne_of_lt (Nat.lt_of_lt_of_le F70.lt (Nat.le_of_eq g71.symm))
    have ne79 : x3_43 ≠ b71 := Nat.ne_of_lt (Nat.lt_of_lt_of_le G43_0.lt (Nat.le_of_eq g71.symm))
    have ne80 : d3_43 ≠ b71 := Nat.ne_of_lt (Nat.lt_of_lt_of_le G43_3.lt (Nat.le_of_eq g71.symm))
    have sfn71 := Safe.new (Z := Z) (EL := consts_1) (vm := T43.vm) (Nat.le_of_eq g71.symm)
    have sf81 := Safe.ext E71 hCR.1 sfn71
    have hCR := hCR.trans (CHr.ext E71 hCR.1)
    have hk := Nat.le_trans hk E71.1
    have gg71 : n0 ≤ b71 := Nat.le_trans Zs43 (Nat.le_of_eq g71.symm)
    have Zs71 : n0 ≤ h71.size := Nat.le_trans Zs43 E71.1
    have F82 : Sta Z h71 "com/example/oyster/oyster/engine/Tokens$Kind" "NUMBER" "Lcom/example/oyster/oyster/engine/Tokens$Kind;" (.ref u_NUMBER) := F51.ext E71
    have F83 : Exa Z h71 u_NUMBER "com/example/oyster/oyster/engine/Tokens$Kind" := F52.ext E71
    have F84 : Sta Z h71 "com/example/oyster/oyster/engine/Tokens$Kind" "SYMBOL" "Lcom/example/oyster/oyster/engine/Tokens$Kind;" (.ref u_SYMBOL) := F53.ext E71
    have F85 : Exa Z h71 u_SYMBOL "com/example/oyster/oyster/engine/Tokens$Kind" := F54.ext E71
    have F86 : Fld Z h71 u_NUMBER "java/lang/Enum" "ordinal" "I" (.int (0 : Int32)) := F55.ext E71
    have F87 : Fld Z h71 u_SYMBOL "java/lang/Enum" "ordinal" "I" (.int (3 : Int32)) := F56.ext E71
    have F88 : Sta Z h71 "com/example/oyster/oyster/engine/Tokens$Kind" "NAME" "Lcom/example/oyster/oyster/engine/Tokens$Kind;" (.ref u_NAME) := F57.ext E71
    have F89 : Exa Z h71 u_NAME "com/example/oyster/oyster/engine/Tokens$Kind" := F58.ext E71
    have F90 : Fld Z h71 u_NAME "java/lang/Enum" "ordinal" "I" (.int (2 : Int32)) := F59.ext E71
    have F91 : Sta Z h71 "com/example/oyster/oyster/engine/Tokens$Kind" "END" "Lcom/example/oyster/oyster/engine/Tokens$Kind;" (.ref u_END) := F60.ext E71
    have F92 : Exa Z h71 u_END "com/example/oyster/oyster/engine/Tokens$Kind" := F61.ext E71
    have F93 : Fld Z h71 u_END "java/lang/Enum" "ordinal" "I" (.int (4 : Int32)) := F62.ext E71
    have F94 : Sta Z h71 "com/example/oyster/oyster/engine/Tokens$Kind" "STRING" "Lcom/example/oyster/oyster/engine/Tokens$Kind;" (.ref u_STRING) := F63.ext E71
    have F95 : Exa Z h71 u_STRING "com/example/oyster/oyster/engine/Tokens$Kind" := F64.ext E71
    have F96 : Fld Z h71 u_STRING "java/lang/Enum" "ordinal" "I" (.int (1 : Int32)) := F65.ext E71
    have F97 : Sta Z h71 "java/lang/String" "COMPACT_STRINGS" "Z" (.int cs) := F66.ext E71
    have F98 : Exa Z h71 x3_15 "java/lang/String" := F67.ext E71
    have F99 : Fld Z h71 x3_15 "java/lang/String" "value" "[B" (.ref d3_15) := F68.ext E71
    have F100 : Fld Z h71 x3_15 "java/lang/String" "coder" "B" (.int (0 : Int32)) := F69.ext E71
    have F101 : Arv Z h71 d3_15 kv3_15 .byte (Int32.ofNat (own_mk zt zc1 zc2 zc3).length) (List.map Value.int (List.map (fun c => c.toInt8.toInt32) (own_mk zt zc1 zc2 zc3))) (.int (0 : Int32)) := F70.ext E71
    have F102 : Exa Z h71 x3_43 "java/lang/String" := G43_0.ext E71
    have F103 : Fld Z h71 x3_43 "java/lang/String" "value" "[B" (.ref d3_43) := G43_1.ext E71
    have F104 : Fld Z h71 x3_43 "java/lang/String" "coder" "B" (.int (0 : Int32)) := G43_2.ext E71
    have F105 : Arv Z h71 d3_43 kv3_43 .byte (Int32.ofNat (own_mk zs zx1 zx2 zx3).length) (List.map Value.int (List.map (fun c => c.toInt8.toInt32) (own_mk zs zx1 zx2 zx3))) (.int (0 : Int32)) := G43_3.ext E71
    have F106 : Fld Z h71 b71 "com/example/oyster/oyster/engine/Tokens$Token" "kind" "Lcom/example/oyster/oyster/engine/Tokens$Kind;" .null := D71 (Or.inr (hw _ (List.mem_of_getElem? (i := 51) rfl))) (ty := (.object "com/example/oyster/oyster/engine/Tokens$Kind")) (by decide)
    have F107 : Fld Z h71 b71 "com/example/oyster/oyster/engine/Tokens$Token" "text" "Ljava/lang/String;" .null := D71 (Or.inr (hw _ (List.mem_of_getElem? (i := 53) rfl))) (ty := (.object "java/lang/String")) (by decide)
    have F108 : Fld Z h71 b71 "com/example/oyster/oyster/engine/Tokens$Token" "column" "I" (.int (0 : Int32)) := D71 (Or.inr (hw _ (List.mem_of_getElem? (i := 55) rfl))) (ty := .int) (by decide)
    obtain ⟨_, _, ⟨T109, L109, k109, n109⟩, -, X109, ⟨Lc109, hQ109, l109, y109, z109⟩, st109⟩ := X71.specialBack hx (y := (⟨"com/example/oyster/oyster/engine/Tokens$Token", "<init>", "(Lcom/example/oyster/oyster/engine/Tokens$Kind;Ljava/lang/String;I)V"⟩ : MethodName)) rfl hown (mvT hZ (hw _ (List.mem_of_getElem? (i := 41) rfl))) (mvT hZ (hw _ (List.mem_of_getElem? (i := 42) rfl))) (mvT hZ (hw _ (List.mem_of_getElem? (i := 43) rfl))) (by decide) (backOf (W := 1) (rm6 l Z a0 hw [] b71 u_NUMBER x3_15 p0_3 h71 n0 Zs71 A71 F106 F107 F108 gg71) hZ (hw _ (List.mem_of_getElem? (i := 43) rfl)) (hw _ (List.mem_of_getElem? (i := 40) rfl)) (by decide) (by decide)) (g := (mkF m 188 #[.val (.int p0_0), .val (.int p0_1), .val (.int p0_2), .val (.int p0_3), .val (.int (0 : Int32)), .val (.ref u_NUMBER), .val (.int zt), .val (.int zs), .val (.int zc1), .val (.int zc2), .val (.int zc3), .val (.int zd1), .val (.int zd2), .val (.int zd3), .val (.ref x3_15), .val (.ref x3_43), .unset, .unset] [(.int p0_3), (.ref x3_15), (.ref u_NUMBER), (.ref b71), (.ref b71)])) rfl (by rw [hml]; rfl) (Steps.refl _) (a := b71) (argsL := [(.ref u_NUMBER), (.ref x3_15), (.int p0_3)]) (rest := [(.ref b71)]) (lenOf pd_5 rfl) rfl (by show 2 * 0 + _ ≤ _; exact Nat.le_of_eq rfl) (hb hby at_188) (fun _ _ => ⟨rfl, e71, (by decide : 13 + 0 ≤ _), (by decide : 27 + 0 ≤ _)⟩)
    dsimp only [Pt.U, Pt.locs, Pt.cells, Pt.slots] at X109 l109 y109 z109 st109 hQ109
    subst l109 y109 z109
    obtain ⟨rfl, N109q, Kc109, G109_0, G109_1, G109_2⟩ := hQ109
    have Zs109 : n0 ≤ T109.heap.size := Nat.le_trans Zs71 Kc109.1
    have sf110 := Safe.keep Kc109 (sfS (Safe.exa hZ.alike A71 (by decide) (by decide)) sf0) hCR.1 sf81
    have hCR := hCR.trans (CHr.keep Kc109 (sfS (Safe.exa hZ.alike A71 (by decide) (by decide)) sf0) hCR.1)
    have hk := Nat.le_trans hk Kc109.1
    have F111 : Sta Z T109.heap "com/example/oyster/oyster/engine/Tokens$Kind" "NUMBER" "Lcom/example/oyster/oyster/engine/Tokens$Kind;" (.ref u_NUMBER) := own_stakeep F82 Kc109 (allS (own_nsE A71) all0)
    have F112 : Exa Z T109.heap u_NUMBER "com/example/oyster/oyster/engine/Tokens$Kind" := F83.keep Kc109
    have F113 : Sta Z T109.heap "com/example/oyster/oyster/engine/Tokens$Kind" "SYMBOL" "Lcom/example/oyster/oyster/engine/Tokens$Kind;" (.ref u_SYMBOL) := own_stakeep F84 Kc109 (allS (own_nsE A71) all0)
    have F114 : Exa Z T109.heap u_SYMBOL "com/example/oyster/oyster/engine/Tokens$Kind" := F85.keep Kc109
    have F115 : Fld Z T109.heap u_NUMBER "java/lang/Enum" "ordinal" "I" (.int (0 : Int32)) := F86.keep Kc109 (ninS ne72 nin0)
    have F116 : Fld Z T109.heap u_SYMBOL "java/lang/Enum" "ordinal" "I" (.int (3 : Int32)) := F87.keep Kc109 (ninS ne73 nin0)
    have F117 : Sta Z T109.heap "com/example/oyster/oyster/engine/Tokens$Kind" "NAME" "Lcom/example/oyster/oyster/engine/Tokens$Kind;" (.ref u_NAME) := own_stakeep F88 Kc109 (allS (own_nsE A71) all0)
    have F118 : Exa Z T109.heap u_NAME "com/example/oyster/oyster/engine/Tokens$Kind" := F89.keep Kc109
    have F119 : Fld Z T109.heap u_NAME "java/lang/Enum" "ordinal" "I" (.int (2 : Int32)) := F90.keep Kc109 (ninS ne74 nin0)
    have F120 : Sta Z T109.heap "com/example/oyster/oyster/engine/Tokens$Kind" "END" "Lcom/example/oyster/oyster/engine/Tokens$Kind;" (.ref u_END) := own_stakeep F91 Kc109 (allS (own_nsE A71) all0)
    have F121 : Exa Z T109.heap u_END "com/example/oyster/oyster/engine/Tokens$Kind" := F92.keep Kc109
    have F122 : Fld Z T109.heap u_END "java/lang/Enum" "ordinal" "I" (.int (4 : Int32)) := F93.keep Kc109 (ninS ne75 nin0)
    have F123 : Sta Z T109.heap "com/example/oyster/oyster/engine/Tokens$Kind" "STRING" "Lcom/example/oyster/oyster/engine/Tokens$Kind;" (.ref u_STRING) := own_stakeep F94 Kc109 (allS (own_nsE A71) all0)
    have F124 : Exa Z T109.heap u_STRING "com/example/oyster/oyster/engine/Tokens$Kind" := F95.keep Kc109
    have F125 : Fld Z T109.heap u_STRING "java/lang/Enum" "ordinal" "I" (.int (1 : Int32)) := F96.keep Kc109 (ninS ne76 nin0)
    have F126 : Sta Z T109.heap "java/lang/String" "COMPACT_STRINGS" "Z" (.int cs) := own_stakeep F97 Kc109 (allS (own_nsE A71) all0)
    have F127 : Exa Z T109.heap x3_15 "java/lang/String" := F98.keep Kc109
    have F128 : Fld Z T109.heap x3_15 "java/lang/String" "value" "[B" (.ref d3_15) := F99.keep Kc109 (ninS ne77 nin0)
    have F129 : Fld Z T109.heap x3_15 "java/lang/String" "coder" "B" (.int (0 : Int32)) := F100.keep Kc109 (ninS ne77 nin0)
    have F130 : Arv Z T109.heap d3_15 kv3_15 .byte (Int32.ofNat (own_mk zt zc1 zc2 zc3).length) (List.map Value.int (List.map (fun c => c.toInt8.toInt32) (own_mk zt zc1 zc2 zc3))) (.int (0 : Int32)) := F101.keep Kc109 (ninS ne78 nin0)
    have F131 : Exa Z T109.heap x3_43 "java/lang/String" := F102.keep Kc109
    have F132 : Fld Z T109.heap x3_43 "java/lang/String" "value" "[B" (.ref d3_43) := F103.keep Kc109 (ninS ne79 nin0)
    have F133 : Fld Z T109.heap x3_43 "java/lang/String" "coder" "B" (.int (0 : Int32)) := F104.keep Kc109 (ninS ne79 nin0)
    have F134 : Arv Z T109.heap d3_43 kv3_43 .byte (Int32.ofNat (own_mk zs zx1 zx2 zx3).length) (List.map Value.int (List.map (fun c => c.toInt8.toInt32) (own_mk zs zx1 zx2 zx3))) (.int (0 : Int32)) := F105.keep Kc109 (ninS ne80 nin0)
    have N109 := Fr.app N43 N109q
    obtain ⟨cq136, kq136, q136a, q136b, q136c⟩ := isOf hZ rfl G109_0
    obtain ⟨_, _, ⟨T136, L136, k136, n136⟩, -, X136, ⟨Lc136, hQ136, l136, y136, z136⟩, st136⟩ := X109.virtualBack hx (y := (⟨"com/example/oyster/oyster/engine/Tokens$Token", "isSymbol", "(Ljava/lang/String;)Z"⟩ : MethodName)) (z := (⟨"com/example/oyster/oyster/engine/Tokens$Token", "isSymbol", "(Ljava/lang/String;)Z"⟩ : MethodName)) hown (mvT hZ (hw _ (List.mem_of_getElem? (i := 56) rfl))) (mvT hZ (hw _ (List.mem_of_getElem? (i := 57) rfl))) (notFace_of_selects (args := #[]) (mvT hZ (hw _ (List.mem_of_getElem? (i := 59) rfl)))) (mvT hZ (hw _ (List.mem_of_getElem? (i := 59) rfl))) (mvT hZ (hw _ (List.mem_of_getElem? (i := 58) rfl))) (by decide) (backOf (W := 0) (rm7 l Z a0 hw [] b71 x3_43 u_SYMBOL u_NUMBER T109.heap n0 Zs109 G109_1 F113 ne_NUMBER) hZ (hw _ (List.mem_of_getElem? (i := 60) rfl)) (hw _ (List.mem_of_getElem? (i := 40) rfl)) (by decide) (by decide)) q136a q136c (g := (mkF m 250 #[.val (.int p0_0), .val (.int p0_1), .val (.int p0_2), .val (.int p0_3), .val (.int (0 : Int32)), .val (.ref u_NUMBER), .val (.int zt), .val (.int zs), .val (.int zc1), .val (.int zc2), .val (.int zc3), .val (.int zd1), .val (.int zd2), .val (.int zd3), .val (.ref x3_15), .val (.ref x3_43), .val (.ref b71), .val (.int (0 : Int32))] [(.ref x3_43), (.ref b71)])) rfl (by rw [hml]; rfl) (Steps.refl _) (argsL := [(.ref x3_43)]) (rest := []) (lenOf pd_6 rfl) rfl (by show 2 * 0 + _ ≤ _; exact Nat.le_of_eq rfl) (hb hby at_250) (fun _ _ => ⟨rfl, rfl, (by decide : 13 + 0 ≤ _), (by decide : 27 + 0 ≤ _)⟩)
    dsimp only [Pt.U, Pt.locs, Pt.cells, Pt.slots] at X136 l136 y136 z136 st136 hQ136
    subst l136 y136 z136
    obtain ⟨rfl, N136q, eh136⟩ := hQ136
    have N136 := Fr.app N109 N136q
    have k137 : ∀ t, Steps p.tables e below (T136.setTop (mkF m 263 #[.val (.int p0_0), .val (.int p0_1), .val (.int p0_2), .val (.int p0_3), .val (.int (0 : Int32)), .val (.ref u_NUMBER), .val (.int zt), .val (.int zs), .val (.int zc1), .val (.int zc2), .val (.int zc3), .val (.int zd1), .val (.int zd2), .val (.int zd3), .val (.ref x3_15), .val (.ref x3_43), .val (.ref b71), .val (.int (0 : Int32))] [(.int (1 : Int32))])) t → Steps p.tables e below (s₁.setTop (entryFrame m #[(.int p0_0), (.int p0_1), (.int p0_2), (.int p0_3)] maxLocals)) t := by
      intro t k
      refine k42 t ?_
      show Steps p.tables e below (T15.setTop (mkF m 174 #[.val (.int p0_0), .val (.int p0_1), .val (.int p0_2), .val (.int p0_3), .val (.int (0 : Int32)), .val (.ref u_NUMBER), .val (.int zt), .val (.int zs), .val (.int zc1), .val (.int zc2), .val (.int zc3), .val (.int zd1), .val (.int zd2), .val (.int zd3), .val (.ref x3_15), .unset, .unset, .unset] [(.int zx3), (.int zx2), (.int zx1), (.int zs)])) _
      refine st43.trans ?_
      show Steps p.tables e below (T43.setTop (mkF m 177 #[.val (.int p0_0), .val (.int p0_1), .val (.int p0_2), .val (.int p0_3), .val (.int (0 : Int32)), .val (.ref u_NUMBER), .val (.int zt), .val (.int zs), .val (.int zc1), .val (.int zc2), .val (.int zc3), .val (.int zd1), .val (.int zd2), .val (.int zd3), .val (.ref x3_15), .unset, .unset, .unset] [(.ref x3_43)])) _
      refine XS.astore X43.here hx rfl (hb hby at_177) rfl rfl (l' := #[.val (.int p0_0), .val (.int p0_1), .val (.int p0_2), .val (.int p0_3), .val (.int (0 : Int32)), .val (.ref u_NUMBER), .val (.int zt), .val (.int zs), .val (.int zc1), .val (.int zc2), .val (.int zc3), .val (.int zd1), .val (.int zd2), .val (.int zd3), .val (.ref x3_15), .val (.ref x3_43), .unset, .unset]) rfl ?_
      show Steps p.tables e below (T43.setTop (mkF m 179 #[.val (.int p0_0), .val (.int p0_1), .val (.int p0_2), .val (.int p0_3), .val (.int (0 : Int32)), .val (.ref u_NUMBER), .val (.int zt), .val (.int zs), .val (.int zc1), .val (.int zc2), .val (.int zc3), .val (.int zd1), .val (.int zd2), .val (.int zd3), .val (.ref x3_15), .val (.ref x3_43), .unset, .unset] [])) _
      refine st71 _ ?_
      show Steps p.tables e below (T71.setTop (mkF m 182 #[.val (.int p0_0), .val (.int p0_1), .val (.int p0_2), .val (.int p0_3), .val (.int (0 : Int32)), .val (.ref u_NUMBER), .val (.int zt), .val (.int zs), .val (.int zc1), .val (.int zc2), .val (.int zc3), .val (.int zd1), .val (.int zd2), .val (.int zd3), .val (.ref x3_15), .val (.ref x3_43), .unset, .unset] [(.ref b71)])) _
      refine XS.dup X71.here hx rfl (hb hby at_182) rfl rfl ?_
      show Steps p.tables e below (T71.setTop (mkF m 183 #[.val (.int p0_0), .val (.int p0_1), .val (.int p0_2), .val (.int p0_3), .val (.int (0 : Int32)), .val (.ref u_NUMBER), .val (.int zt), .val (.int zs), .val (.int zc1), .val (.int zc2), .val (.int zc3), .val (.int zd1), .val (.int zd2), .val (.int zd3), .val (.ref x3_15), .val (.ref x3_43), .unset, .unset] [(.ref b71), (.ref b71)])) _
      refine XS.aload X71.here hx rfl (hb hby at_183) rfl rfl ?_
      show Steps p.tables e below (T71.setTop (mkF m 185 #[.val (.int p0_0), .val (.int p0_1), .val (.int p0_2), .val (.int p0_3), .val (.int (0 : Int32)), .val (.ref u_NUMBER), .val (.int zt), .val (.int zs), .val (.int zc1), .val (.int zc2), .val (.int zc3), .val (.int zd1), .val (.int zd2), .val (.int zd3), .val (.ref x3_15), .val (.ref x3_43), .unset, .unset] [(.ref u_NUMBER), (.ref b71), (.ref b71)])) _
      refine XS.aload X71.here hx rfl (hb hby at_185) rfl rfl ?_
      show Steps p.tables e below (T71.setTop (mkF m 187 #[.val (.int p0_0), .val (.int p0_1), .val (.int p0_2), .val (.int p0_3), .val (.int (0 : Int32)), .val (.ref u_NUMBER), .val (.int zt), .val (.int zs), .val (.int zc1), .val (.int zc2), .val (.int zc3), .val (.int zd1), .val (.int zd2), .val (.int zd3), .val (.ref x3_15), .val (.ref x3_43), .unset, .unset] [(.ref x3_15), (.ref u_NUMBER), (.ref b71), (.ref b71)])) _
      refine XS.iloadN X71.here hx rfl (hb hby at_187) rfl ?_
      show Steps p.tables e below (T71.setTop (mkF m 188 #[.val (.int p0_0), .val (.int p0_1), .val (.int p0_2), .val (.int p0_3), .val (.int (0 : Int32)), .val (.ref u_NUMBER), .val (.int zt), .val (.int zs), .val (.int zc1), .val (.int zc2), .val (.int zc3), .val (.int zd1), .val (.int zd2), .val (.int zd3), .val (.ref x3_15), .val (.ref x3_43), .unset, .unset] [(.int p0_3), (.ref x3_15), (.ref u_NUMBER), (.ref b71), (.ref b71)])) _
      refine st109.trans ?_
      show Steps p.tables e below (T109.setTop (mkF m 191 #[.val (.int p0_0), .val (.int p0_1), .val (.int p0_2), .val (.int p0_3), .val (.int (0 : Int32)), .val (.ref u_NUMBER), .val (.int zt), .val (.int zs), .val (.int zc1), .val (.int zc2), .val (.int zc3), .val (.int zd1), .val (.int zd2), .val (.int zd3), .val (.ref x3_15), .val (.ref x3_43), .unset, .unset] [(.ref b71)])) _
      refine XS.astore X109.here hx rfl (hb hby at_191) rfl rfl (l' := #[.val (.int p0_0), .val (.int p0_1), .val (.int p0_2), .val (.int p0_3), .val (.int (0 : Int32)), .val (.ref u_NUMBER), .val (.int zt), .val (.int zs), .val (.int zc1), .val (.int zc2), .val (.int zc3), .val (.int zd1), .val (.int zd2), .val (.int zd3), .val (.ref x3_15), .val (.ref x3_43), .val (.ref b71), .unset]) rfl ?_
      show Steps p.tables e below (T109.setTop (mkF m 193 #[.val (.int p0_0), .val (.int p0_1), .val (.int p0_2), .val (.int p0_3), .val (.int (0 : Int32)), .val (.ref u_NUMBER), .val (.int zt), .val (.int zs), .val (.int zc1), .val (.int zc2), .val (.int zc3), .val (.int zd1), .val (.int zd2), .val (.int zd3), .val (.ref x3_15), .val (.ref x3_43), .val (.ref b71), .unset] [])) _
      refine XS.iload X109.here hx rfl (hb hby at_193) rfl ?_
      show Steps p.tables e below (T109.setTop (mkF m 195 #[.val (.int p0_0), .val (.int p0_1), .val (.int p0_2), .val (.int p0_3), .val (.int (0 : Int32)), .val (.ref u_NUMBER), .val (.int zt), .val (.int zs), .val (.int zc1), .val (.int zc2), .val (.int zc3), .val (.int zd1), .val (.int zd2), .val (.int zd3), .val (.ref x3_15), .val (.ref x3_43), .val (.ref b71), .unset] [(.int (0 : Int32))])) _
      refine XS.iconst X109.here hx rfl (hb hby at_195) ?_
      show Steps p.tables e below (T109.setTop (mkF m 196 #[.val (.int p0_0), .val (.int p0_1), .val (.int p0_2), .val (.int p0_3), .val (.int (0 : Int32)), .val (.ref u_NUMBER), .val (.int zt), .val (.int zs), .val (.int zc1), .val (.int zc2), .val (.int zc3), .val (.int zd1), .val (.int zd2), .val (.int zd3), .val (.ref x3_15), .val (.ref x3_43), .val (.ref b71), .unset] [(.int (3 : Int32)), (.int (0 : Int32))])) _
      refine XS.icmpYes X109.here hx rfl (pc0 := 196) (pc' := 243) rfl (hb hby at_196) rfl (feq (by decide : ¬ ((0 : Int32) = (3 : Int32)))).2 (by decide) (by decide) ?_
      show Steps p.tables e below (T109.setTop (mkF m 243 #[.val (.int p0_0), .val (.int p0_1), .val (.int p0_2), .val (.int p0_3), .val (.int (0 : Int32)), .val (.ref u_NUMBER), .val (.int zt), .val (.int zs), .val (.int zc1), .val (.int zc2), .val (.int zc3), .val (.int zd1), .val (.int zd2), .val (.int zd3), .val (.ref x3_15), .val (.ref x3_43), .val (.ref b71), .unset] [])) _
      refine XS.iconst X109.here hx rfl (hb hby at_243) ?_
      show Steps p.tables e below (T109.setTop (mkF m 244 #[.val (.int p0_0), .val (.int p0_1), .val (.int p0_2), .val (.int p0_3), .val (.int (0 : Int32)), .val (.ref u_NUMBER), .val (.int zt), .val (.int zs), .val (.int zc1), .val (.int zc2), .val (.int zc3), .val (.int zd1), .val (.int zd2), .val (.int zd3), .val (.ref x3_15), .val (.ref x3_43), .val (.ref b71), .unset] [(.int (0 : Int32))])) _
      refine XS.istore X109.here hx rfl (hb hby at_244) rfl (l' := #[.val (.int p0_0), .val (.int p0_1), .val (.int p0_2), .val (.int p0_3), .val (.int (0 : Int32)), .val (.ref u_NUMBER), .val (.int zt), .val (.int zs), .val (.int zc1), .val (.int zc2), .val (.int zc3), .val (.int zd1), .val (.int zd2), .val (.int zd3), .val (.ref x3_15), .val (.ref x3_43), .val (.ref b71), .val (.int (0 : Int32))]) rfl ?_
      show Steps p.tables e below (T109.setTop (mkF m 246 #[.val (.int p0_0), .val (.int p0_1), .val (.int p0_2), .val (.int p0_3), .val (.int (0 : Int32)), .val (.ref u_NUMBER), .val (.int zt), .val (.int zs), .val (.int zc1), .val (.int zc2), .val (.int zc3), .val (.int zd1), .val (.int zd2), .val (.int zd3), .val (.ref x3_15), .val (.ref x3_43), .val (.ref b71), .val (.int (0 : Int32))] [])) _
      refine XS.aload X109.here hx rfl (hb hby at_246) rfl rfl ?_
      show Steps p.tables e below (T109.setTop (mkF m 248 #[.val (.int p0_0), .val (.int p0_1), .val (.int p0_2), .val (.int p0_3), .val (.int (0 : Int32)), .val (.ref u_NUMBER), .val (.int zt), .val (.int zs), .val (.int zc1), .val (.int zc2), .val (.int zc3), .val (.int zd1), .val (.int zd2), .val (.int zd3), .val (.ref x3_15), .val (.ref x3_43), .val (.ref b71), .val (.int (0 : Int32))] [(.ref b71)])) _
      refine XS.aload X109.here hx rfl (hb hby at_248) rfl rfl ?_
      show Steps p.tables e below (T109.setTop (mkF m 250 #[.val (.int p0_0), .val (.int p0_1), .val (.int p0_2), .val (.int p0_3), .val (.int (0 : Int32)), .val (.ref u_NUMBER), .val (.int zt), .val (.int zs), .val (.int zc1), .val (.int zc2), .val (.int zc3), .val (.int zd1), .val (.int zd2), .val (.int zd3), .val (.ref x3_15), .val (.ref x3_43), .val (.ref b71), .val (.int (0 : Int32))] [(.ref x3_43), (.ref b71)])) _
      refine st136.trans ?_
      show Steps p.tables e below (T136.setTop (mkF m 253 #[.val (.int p0_0), .val (.int p0_1), .val (.int p0_2), .val (.int p0_3), .val (.int (0 : Int32)), .val (.ref u_NUMBER), .val (.int zt), .val (.int zs), .val (.int zc1), .val (.int zc2), .val (.int zc3), .val (.int zd1), .val (.int zd2), .val (.int zd3), .val (.ref x3_15), .val (.ref x3_43), .val (.ref b71), .val (.int (0 : Int32))] [(.int (0 : Int32))])) _
      refine XS.iload X136.here hx rfl (hb hby at_253) rfl ?_
      show Steps p.tables e below (T136.setTop (mkF m 255 #[.val (.int p0_0), .val (.int p0_1), .val (.int p0_2), .val (.int p0_3), .val (.int (0 : Int32)), .val (.ref u_NUMBER), .val (.int zt), .val (.int zs), .val (.int zc1), .val (.int zc2), .val (.int zc3), .val (.int zd1), .val (.int zd2), .val (.int zd3), .val (.ref x3_15), .val (.ref x3_43), .val (.ref b71), .val (.int (0 : Int32))] [(.int (0 : Int32)), (.int (0 : Int32))])) _
      refine XS.icmpNo X136.here hx rfl (hb hby at_255) rfl (teq (by decide : (0 : Int32) = (0 : Int32))).2 ?_
      show Steps p.tables e below (T136.setTop (mkF m 258 #[.val (.int p0_0), .val (.int p0_1), .val (.int p0_2), .val (.int p0_3), .val (.int (0 : Int32)), .val (.ref u_NUMBER), .val (.int zt), .val (.int zs), .val (.int zc1), .val (.int zc2), .val (.int zc3), .val (.int zd1), .val (.int zd2), .val (.int zd3), .val (.ref x3_15), .val (.ref x3_43), .val (.ref b71), .val (.int (0 : Int32))] [])) _
      refine XS.iconst X136.here hx rfl (hb hby at_258) ?_
      show Steps p.tables e below (T136.setTop (mkF m 259 #[.val (.int p0_0), .val (.int p0_1), .val (.int p0_2), .val (.int p0_3), .val (.int (0 : Int32)), .val (.ref u_NUMBER), .val (.int zt), .val (.int zs), .val (.int zc1), .val (.int zc2), .val (.int zc3), .val (.int zd1), .val (.int zd2), .val (.int zd3), .val (.ref x3_15), .val (.ref x3_43), .val (.ref b71), .val (.int (0 : Int32))] [(.int (1 : Int32))])) _
      refine XS.goto X136.here hx rfl (pc0 := 259) (pc' := 263) rfl (hb hby at_259) (by decide) (by decide) ?_
      exact k
    obtain ⟨fs, hr, hrun, hended, hE1, hE2, hE3, hE4⟩ := X136.leaveW hS (by rw [eh136]; exact hk) (v := some (.int (1 : Int32))) (fun h => by rw [Bd.returns] at h; cases h)
    have hCE := hCR.trans (CHv.at X136 hZ hEL hCR.1)
    refine ⟨_, _, k137 _ ?_, hrun, hended, _, _, rfl, ?_, (by show CHr Z consts_1 s.vm s.heap T136.vm T136.heap; rw [hh, eh136]; exact hCE), ⟨_, rfl⟩, hE2, hE3, hE4.mono (by decide) (by decide)⟩
    · exact retN X136 hx (t := .boolean) Bd.returns (by simp) (hb hby at_263) hr
    · show Q0 Z p0_0 p0_1 p0_2 p0_3 u_NUMBER u_SYMBOL u_NAME u_END u_STRING cs h0 n0 _ T136.heap _
      rw [eh136]
      exact ⟨rfl, N136⟩
  · skip
    obtain ⟨T138, X138, e138, st138⟩ := getS2 X0 hx hZ hown (host := "") (Or.inl (hw _ (List.mem_of_getElem? (i := 70) rfl))) Via.refl e0 S_STRING (g := (mkF m 27 #[.val (.int p0_0), .val (.int p0_1), .val (.int p0_2), .val (.int p0_3), .val (.int (1 : Int32)), .unset, .unset, .unset, .unset, .unset, .unset, .unset, .unset, .unset, .unset, .unset, .unset, .unset] [])) rfl (hb hby at_27)
    have k139 : ∀ t, Steps p.tables e below (T138.setTop (mkF m 71 #[.val (.int p0_0), .val (.int p0_1), .val (.int p0_2), .val (.int p0_3), .val (.int (1 : Int32)), .val (.ref u_STRING), .unset, .unset, .unset, .unset, .unset, .unset, .unset, .unset, .unset, .unset, .unset, .unset] [(.int (p0_1 &&& (3 : Int32)))])) t → Steps p.tables e below (s₁.setTop (entryFrame m #[(.int p0_0), (.int p0_1), (.int p0_2), (.int p0_3)] maxLocals)) t := by
      intro t k
      refine k1 t ?_
      show Steps p.tables e below (s₁.setTop (mkF m 8 #[.val (.int p0_0), .val (.int p0_1), .val (.int p0_2), .val (.int p0_3), .val (.int (1 : Int32)), .unset, .unset, .unset, .unset, .unset, .unset, .unset, .unset, .unset, .unset, .unset, .unset, .unset] [])) _
      refine XS.iload X0.here hx rfl (hb hby at_8) rfl ?_
      show Steps p.tables e below (s₁.setTop (mkF m 10 #[.val (.int p0_0), .val (.int p0_1), .val (.int p0_2), .val (.int p0_3), .val (.int (1 : Int32)), .unset, .unset, .unset, .unset, .unset, .unset, .unset, .unset, .unset, .unset, .unset, .unset, .unset] [(.int (1 : Int32))])) _
      refine XS.ifYes X0.here hx rfl (pc0 := 10) (pc' := 21) rfl (hb hby at_10) rfl ((if0 _ _).trans (feq (by decide : ¬ ((1 : Int32) = (0 : Int32)))).2) (by decide) (by decide) ?_
      show Steps p.tables e below (s₁.setTop (mkF m 21 #[.val (.int p0_0), .val (.int p0_1), .val (.int p0_2), .val (.int p0_3), .val (.int (1 : Int32)), .unset, .unset, .unset, .unset, .unset, .unset, .unset, .unset, .unset, .unset, .unset, .unset, .unset] [])) _
      refine XS.iload X0.here hx rfl (hb hby at_21) rfl ?_
      show Steps p.tables e below (s₁.setTop (mkF m 23 #[.val (.int p0_0), .val (.int p0_1), .val (.int p0_2), .val (.int p0_3), .val (.int (1 : Int32)), .unset, .unset, .unset, .unset, .unset, .unset, .unset, .unset, .unset, .unset, .unset, .unset, .unset] [(.int (1 : Int32))])) _
      refine XS.iconst X0.here hx rfl (hb hby at_23) ?_
      show Steps p.tables e below (s₁.setTop (mkF m 24 #[.val (.int p0_0), .val (.int p0_1), .val (.int p0_2), .val (.int p0_3), .val (.int (1 : Int32)), .unset, .unset, .unset, .unset, .unset, .unset, .unset, .unset, .unset, .unset, .unset, .unset, .unset] [(.int (1 : Int32)), (.int (1 : Int32))])) _
      refine XS.icmpNo X0.here hx rfl (hb hby at_24) rfl (teq (by decide : (1 : Int32) = (1 : Int32))).2 ?_
      show Steps p.tables e below (s₁.setTop (mkF m 27 #[.val (.int p0_0), .val (.int p0_1), .val (.int p0_2), .val (.int p0_3), .val (.int (1 : Int32)), .unset, .unset, .unset, .unset, .unset, .unset, .unset, .unset, .unset, .unset, .unset, .unset, .unset] [])) _
      refine st138 _ ?_
      show Steps p.tables e below (T138.setTop (mkF m 30 #[.val (.int p0_0), .val (.int p0_1), .val (.int p0_2), .val (.int p0_3), .val (.int (1 : Int32)), .unset, .unset, .unset, .unset, .unset, .unset, .unset, .unset, .unset, .unset, .unset, .unset, .unset] [(.ref u_STRING)])) _
      refine XS.astore X138.here hx rfl (hb hby at_30) rfl rfl (l' := #[.val (.int p0_0), .val (.int p0_1), .val (.int p0_2), .val (.int p0_3), .val (.int (1 : Int32)), .val (.ref u_STRING), .unset, .unset, .unset, .unset, .unset, .unset, .unset, .unset, .unset, .unset, .unset, .unset]) rfl ?_
      show Steps p.tables e below (T138.setTop (mkF m 32 #[.val (.int p0_0), .val (.int p0_1), .val (.int p0_2), .val (.int p0_3), .val (.int (1 : Int32)), .val (.ref u_STRING), .unset, .unset, .unset, .unset, .unset, .unset, .unset, .unset, .unset, .unset, .unset, .unset] [])) _
      refine XS.goto X138.here hx rfl (pc0 := 32) (pc' := 68) rfl (hb hby at_32) (by decide) (by decide) ?_
      show Steps p.tables e below (T138.setTop (mkF m 68 #[.val (.int p0_0), .val (.int p0_1), .val (.int p0_2), .val (.int p0_3), .val (.int (1 : Int32)), .val (.ref u_STRING), .unset, .unset, .unset, .unset, .unset, .unset, .unset, .unset, .unset, .unset, .unset, .unset] [])) _
      refine XS.iloadN X138.here hx rfl (hb hby at_68) rfl ?_
      show Steps p.tables e below (T138.setTop (mkF m 69 #[.val (.int p0_0), .val (.int p0_1), .val (.int p0_2), .val (.int p0_3), .val (.int (1 : Int32)), .val (.ref u_STRING), .unset, .unset, .unset, .unset, .unset, .unset, .unset, .unset, .unset, .unset, .unset, .unset] [(.int p0_1)])) _
      refine XS.iconst X138.here hx rfl (hb hby at_69) ?_
      show Steps p.tables e below (T138.setTop (mkF m 70 #[.val (.int p0_0), .val (.int p0_1), .val (.int p0_2), .val (.int p0_3), .val (.int (1 : Int32)), .val (.ref u_STRING), .unset, .unset, .unset, .unset, .unset, .unset, .unset, .unset, .unset, .unset, .unset, .unset] [(.int (3 : Int32)), (.int p0_1)])) _
      refine XS.iand X138.here hx rfl (hb hby at_70) rfl ?_
      exact k
    obtain ⟨zt, hzt⟩ : ∃ z, z = (p0_1 &&& (3 : Int32)) := ⟨_, rfl⟩
    rw [← hzt] at k139
    have k140 : ∀ t, Steps p.tables e below (T138.setTop (mkF m 76 #[.val (.int p0_0), .val (.int p0_1), .val (.int p0_2), .val (.int p0_3), .val (.int (1 : Int32)), .val (.ref u_STRING), .val (.int zt), .unset, .unset, .unset, .unset, .unset, .unset, .unset, .unset, .unset, .unset, .unset] [(.int (p0_2 &&& (3 : Int32)))])) t → Steps p.tables e below (s₁.setTop (entryFrame m #[(.int p0_0), (.int p0_1), (.int p0_2), (.int p0_3)] maxLocals)) t := by
      intro t k
      refine k139 t ?_
      show Steps p.tables e below (T138.setTop (mkF m 71 #[.val (.int p0_0), .val (.int p0_1), .val (.int p0_2), .val (.int p0_3), .val (.int (1 : Int32)), .val (.ref u_STRING), .unset, .unset, .unset, .unset, .unset, .unset, .unset, .unset, .unset, .unset, .unset, .unset] [(.int zt)])) _
      refine XS.istore X138.here hx rfl (hb hby at_71) rfl (l' := #[.val (.int p0_0), .val (.int p0_1), .val (.int p0_2), .val (.int p0_3), .val (.int (1 : Int32)), .val (.ref u_STRING), .val (.int zt), .unset, .unset, .unset, .unset, .unset, .unset, .unset, .unset, .unset, .unset, .unset]) rfl ?_
      show Steps p.tables e below (T138.setTop (mkF m 73 #[.val (.int p0_0), .val (.int p0_1), .val (.int p0_2), .val (.int p0_3), .val (.int (1 : Int32)), .val (.ref u_STRING), .val (.int zt), .unset, .unset, .unset, .unset, .unset, .unset, .unset, .unset, .unset, .unset, .unset] [])) _
      refine XS.iloadN X138.here hx rfl (hb hby at_73) rfl ?_
      show Steps p.tables e below (T138.setTop (mkF m 74 #[.val (.int p0_0), .val (.int p0_1), .val (.int p0_2), .val (.int p0_3), .val (.int (1 : Int32)), .val (.ref u_STRING), .val (.int zt), .unset, .unset, .unset, .unset, .unset, .unset, .unset, .unset, .unset, .unset, .unset] [(.int p0_2)])) _
      refine XS.iconst X138.here hx rfl (hb hby at_74) ?_
      show Steps p.tables e below (T138.setTop (mkF m 75 #[.val (.int p0_0), .val (.int p0_1), .val (.int p0_2), .val (.int p0_3), .val (.int (1 : Int32)), .val (.ref u_STRING), .val (.int zt), .unset, .unset, .unset, .unset, .unset, .unset, .unset, .unset, .unset, .unset, .unset] [(.int (3 : Int32)), (.int p0_2)])) _
      refine XS.iand X138.here hx rfl (hb hby at_75) rfl ?_
      exact k
    obtain ⟨zs, hzs⟩ : ∃ z, z = (p0_2 &&& (3 : Int32)) := ⟨_, rfl⟩
    rw [← hzs] at k140
    have k141 : ∀ t, Steps p.tables e below (T138.setTop (mkF m 86 #[.val (.int p0_0), .val (.int p0_1), .val (.int p0_2), .val (.int p0_3), .val (.int (1 : Int32)), .val (.ref u_STRING), .val (.int zt), .val (.int zs), .unset, .unset, .unset, .unset, .unset, .unset, .unset, .unset, .unset, .unset] [(.int (((p0_1.toUInt32 >>> ((8 : Int32) &&& 31).toUInt32).toInt32) &&& (255 : Int32)))])) t → Steps p.tables e below (s₁.setTop (entryFrame m #[(.int p0_0), (.int p0_1), (.int p0_2), (.int p0_3)] maxLocals)) t := by
      intro t k
      refine k140 t ?_
      show Steps p.tables e below (T138.setTop (mkF m 76 #[.val (.int p0_0), .val (.int p0_1), .val (.int p0_2), .val (.int p0_3), .val (.int (1 : Int32)), .val (.ref u_STRING), .val (.int zt), .unset, .unset, .unset, .unset, .unset, .unset, .unset, .unset, .unset, .unset, .unset] [(.int zs)])) _
      refine XS.istore X138.here hx rfl (hb hby at_76) rfl (l' := #[.val (.int p0_0), .val (.int p0_1), .val (.int p0_2), .val (.int p0_3), .val (.int (1 : Int32)), .val (.ref u_STRING), .val (.int zt), .val (.int zs), .unset, .unset, .unset, .unset, .unset, .unset, .unset, .unset, .unset, .unset]) rfl ?_
      show Steps p.tables e below (T138.setTop (mkF m 78 #[.val (.int p0_0), .val (.int p0_1), .val (.int p0_2), .val (.int p0_3), .val (.int (1 : Int32)), .val (.ref u_STRING), .val (.int zt), .val (.int zs), .unset, .unset, .unset, .unset, .unset, .unset, .unset, .unset, .unset, .unset] [])) _
      refine XS.iloadN X138.here hx rfl (hb hby at_78) rfl ?_
      show Steps p.tables e below (T138.setTop (mkF m 79 #[.val (.int p0_0), .val (.int p0_1), .val (.int p0_2), .val (.int p0_3), .val (.int (1 : Int32)), .val (.ref u_STRING), .val (.int zt), .val (.int zs), .unset, .unset, .unset, .unset, .unset, .unset, .unset, .unset, .unset, .unset] [(.int p0_1)])) _
      refine XS.bipush X138.here hx rfl (hb hby at_79) ?_
      show Steps p.tables e below (T138.setTop (mkF m 81 #[.val (.int p0_0), .val (.int p0_1), .val (.int p0_2), .val (.int p0_3), .val (.int (1 : Int32)), .val (.ref u_STRING), .val (.int zt), .val (.int zs), .unset, .unset, .unset, .unset, .unset, .unset, .unset, .unset, .unset, .unset] [(.int (8 : Int32)), (.int p0_1)])) _
      refine XS.iushr X138.here hx rfl (hb hby at_81) rfl ?_
      show Steps p.tables e below (T138.setTop (mkF m 82 #[.val (.int p0_0), .val (.int p0_1), .val (.int p0_2), .val (.int p0_3), .val (.int (1 : Int32)), .val (.ref u_STRING), .val (.int zt), .val (.int zs), .unset, .unset, .unset, .unset, .unset, .unset, .unset, .unset, .unset, .unset] [(.int ((p0_1.toUInt32 >>> ((8 : Int32) &&& 31).toUInt32).toInt32))])) _
      refine XS.sipush X138.here hx rfl (hb hby at_82) ?_
      show Steps p.tables e below (T138.setTop (mkF m 85 #[.val (.int p0_0), .val (.int p0_1), .val (.int p0_2), .val (.int p0_3), .val (.int (1 : Int32)), .val (.ref u_STRING), .val (.int zt), .val (.int zs), .unset, .unset, .unset, .unset, .unset, .unset, .unset, .unset, .unset, .unset] [(.int (255 : Int32)), (.int ((p0_1.toUInt32 >>> ((8 : Int32) &&& 31).toUInt32).toInt32))])) _
      refine XS.iand X138.here hx rfl (hb hby at_85) rfl ?_
      exact k
    obtain ⟨zc1, hzc1⟩ : ∃ z, z = (((p0_1.toUInt32 >>> ((8 : Int32) &&& 31).toUInt32).toInt32) &&& (255 : Int32)) := ⟨_, rfl⟩
    rw [← hzc1] at k141
    have hr_zc1 : ¬ (zc1 < (0 : Int32)) ∧ ¬ ((255 : Int32) < zc1) := by rw [hzc1]; exact own_m255 _
    have k142 : ∀ t, Steps p.tables e below (T138.setTop (mkF m 96 #[.val (.int p0_0), .val (.int p0_1), .val (.int p0_2), .val (.int p0_3), .val (.int (1 : Int32)), .val (.ref u_STRING), .val (.int zt), .val (.int zs), .val (.int zc1), .unset, .unset, .unset, .unset, .unset, .unset, .unset, .unset, .unset] [(.int (((p0_1.toUInt32 >>> ((16 : Int32) &&& 31).toUInt32).toInt32) &&& (255 : Int32)))])) t → Steps p.tables e below (s₁.setTop (entryFrame m #[(.int p0_0), (.int p0_1), (.int p0_2), (.int p0_3)] maxLocals)) t := by
      intro t k
      refine k141 t ?_
      show Steps p.tables e below (T138.setTop (mkF m 86 #[.val (.int p0_0), .val (.int p0_1), .val (.int p0_2), .val (.int p0_3), .val (.int (1 : Int32)), .val (.ref u_STRING), .val (.int zt), .val (.int zs), .unset, .unset, .unset, .unset, .unset, .unset, .unset, .unset, .unset, .unset] [(.int zc1)])) _
      refine XS.istore X138.here hx rfl (hb hby at_86) rfl (l' := #[.val (.int p0_0), .val (.int p0_1), .val (.int p0_2), .val (.int p0_3), .val (.int (1 : Int32)), .val (.ref u_STRING), .val (.int zt), .val (.int zs), .val (.int zc1), .unset, .unset, .unset, .unset, .unset, .unset, .unset, .unset, .unset]) rfl ?_
      show Steps p.tables e below (T138.setTop (mkF m 88 #[.val (.int p0_0), .val (.int p0_1), .val (.int p0_2), .val (.int p0_3), .val (.int (1 : Int32)), .val (.ref u_STRING), .val (.int zt), .val (.int zs), .val (.int zc1), .unset, .unset, .unset, .unset, .unset, .unset, .unset, .unset, .unset] [])) _
      refine XS.iloadN X138.here hx rfl (hb hby at_88) rfl ?_
      show Steps p.tables e below (T138.setTop (mkF m 89 #[.val (.int p0_0), .val (.int p0_1), .val (.int p0_2), .val (.int p0_3), .val (.int (1 : Int32)), .val (.ref u_STRING), .val (.int zt), .val (.int zs), .val (.int zc1), .unset, .unset, .unset, .unset, .unset, .unset, .unset, .unset, .unset] [(.int p0_1)])) _
      refine XS.bipush X138.here hx rfl (hb hby at_89) ?_
      show Steps p.tables e below (T138.setTop (mkF m 91 #[.val (.int p0_0), .val (.int p0_1), .val (.int p0_2), .val (.int p0_3), .val (.int (1 : Int32)), .val (.ref u_STRING), .val (.int zt), .val (.int zs), .val (.int zc1), .unset, .unset, .unset, .unset, .unset, .unset, .unset, .unset, .unset] [(.int (16 : Int32)), (.int p0_1)])) _
      refine XS.iushr X138.here hx rfl (hb hby at_91) rfl ?_
      show Steps p.tables e below (T138.setTop (mkF m 92 #[.val (.int p0_0), .val (.int p0_1), .val (.int p0_2), .val (.int p0_3), .val (.int (1 : Int32)), .val (.ref u_STRING), .val (.int zt), .val (.int zs), .val (.int zc1), .unset, .unset, .unset, .unset, .unset, .unset, .unset, .unset, .unset] [(.int ((p0_1.toUInt32 >>> ((16 : Int32) &&& 31).toUInt32).toInt32))])) _
      refine XS.sipush X138.here hx rfl (hb hby at_92) ?_
      show Steps p.tables e below (T138.setTop (mkF m 95 #[.val (.int p0_0), .val (.int p0_1), .val (.int p0_2), .val (.int p0_3), .val (.int (1 : Int32)), .val (.ref u_STRING), .val (.int zt), .val (.int zs), .val (.int zc1), .unset, .unset, .unset, .unset, .unset, .unset, .unset, .unset, .unset] [(.int (255 : Int32)), (.int ((p0_1.toUInt32 >>> ((16 : Int32) &&& 31).toUInt32).toInt32))])) _
      refine XS.iand X138.here hx rfl (hb hby at_95) rfl ?_
      exact k
    obtain ⟨zc2, hzc2⟩ : ∃ z, z = (((p0_1.toUInt32 >>> ((16 : Int32) &&& 31).toUInt32).toInt32) &&& (255 : Int32)) := ⟨_, rfl⟩
    rw [← hzc2] at k142
    have hr_zc2 : ¬ (zc2 < (0 : Int32)) ∧ ¬ ((255 : Int32) < zc2) := by rw [hzc2]; exact own_m255 _
    have k143 : ∀ t, Steps p.tables e below (T138.setTop (mkF m 106 #[.val (.int p0_0), .val (.int p0_1), .val (.int p0_2), .val (.int p0_3), .val (.int (1 : Int32)), .val (.ref u_STRING), .val (.int zt), .val (.int zs), .val (.int zc1), .val (.int zc2), .unset, .unset, .unset, .unset, .unset, .unset, .unset, .unset] [(.int (((p0_1.toUInt32 >>> ((24 : Int32) &&& 31).toUInt32).toInt32) &&& (255 : Int32)))])) t → Steps p.tables e below (s₁.setTop (entryFrame m #[(.int p0_0), (.int p0_1), (.int p0_2), (.int p0_3)] maxLocals)) t := by
      intro t k
      refine k142 t ?_
      show Steps p.tables e below (T138.setTop (mkF m 96 #[.val (.int p0_0), .val (.int p0_1), .val (.int p0_2), .val (.int p0_3), .val (.int (1 : Int32)), .val (.ref u_STRING), .val (.int zt), .val (.int zs), .val (.int zc1), .unset, .unset, .unset, .unset, .unset, .unset, .unset, .unset, .unset] [(.int zc2)])) _
      refine XS.istore X138.here hx rfl (hb hby at_96) rfl (l' := #[.val (.int p0_0), .val (.int p0_1), .val (.int p0_2), .val (.int p0_3), .val (.int (1 : Int32)), .val (.ref u_STRING), .val (.int zt), .val (.int zs), .val (.int zc1), .val (.int zc2), .unset, .unset, .unset, .unset, .unset, .unset, .unset, .unset]) rfl ?_
      show Steps p.tables e below (T138.setTop (mkF m 98 #[.val (.int p0_0), .val (.int p0_1), .val (.int p0_2), .val (.int p0_3), .val (.int (1 : Int32)), .val (.ref u_STRING), .val (.int zt), .val (.int zs), .val (.int zc1), .val (.int zc2), .unset, .unset, .unset, .unset, .unset, .unset, .unset, .unset] [])) _
      refine XS.iloadN X138.here hx rfl (hb hby at_98) rfl ?_
      show Steps p.tables e below (T138.setTop (mkF m 99 #[.val (.int p0_0), .val (.int p0_1), .val (.int p0_2), .val (.int p0_3), .val (.int (1 : Int32)), .val (.ref u_STRING), .val (.int zt), .val (.int zs), .val (.int zc1), .val (.int zc2), .unset, .unset, .unset, .unset, .unset, .unset, .unset, .unset] [(.int p0_1)])) _
      refine XS.bipush X138.here hx rfl (hb hby at_99) ?_
      show Steps p.tables e below (T138.setTop (mkF m 101 #[.val (.int p0_0), .val (.int p0_1), .val (.int p0_2), .val (.int p0_3), .val (.int (1 : Int32)), .val (.ref u_STRING), .val (.int zt), .val (.int zs), .val (.int zc1), .val (.int zc2), .unset, .unset, .unset, .unset, .unset, .unset, .unset, .unset] [(.int (24 : Int32)), (.int p0_1)])) _
      refine XS.iushr X138.here hx rfl (hb hby at_101) rfl ?_
      show Steps p.tables e below (T138.setTop (mkF m 102 #[.val (.int p0_0), .val (.int p0_1), .val (.int p0_2), .val (.int p0_3), .val (.int (1 : Int32)), .val (.ref u_STRING), .val (.int zt), .val (.int zs), .val (.int zc1), .val (.int zc2), .unset, .unset, .unset, .unset, .unset, .unset, .unset, .unset] [(.int ((p0_1.toUInt32 >>> ((24 : Int32) &&& 31).toUInt32).toInt32))])) _
      refine XS.sipush X138.here hx rfl (hb hby at_102) ?_
      show Steps p.tables e below (T138.setTop (mkF m 105 #[.val (.int p0_0), .val (.int p0_1), .val (.int p0_2), .val (.int p0_3), .val (.int (1 : Int32)), .val (.ref u_STRING), .val (.int zt), .val (.int zs), .val (.int zc1), .val (.int zc2), .unset, .unset, .unset, .unset, .unset, .unset, .unset, .unset] [(.int (255 : Int32)), (.int ((p0_1.toUInt32 >>> ((24 : Int32) &&& 31).toUInt32).toInt32))])) _
      refine XS.iand X138.here hx rfl (hb hby at_105) rfl ?_
      exact k
    obtain ⟨zc3, hzc3⟩ : ∃ z, z = (((p0_1.toUInt32 >>> ((24 : Int32) &&& 31).toUInt32).toInt32) &&& (255 : Int32)) := ⟨_, rfl⟩
    rw [← hzc3] at k143
    have hr_zc3 : ¬ (zc3 < (0 : Int32)) ∧ ¬ ((255 : Int32) < zc3) := by rw [hzc3]; exact own_m255 _
    have k144 : ∀ t, Steps p.tables e below (T138.setTop (mkF m 116 #[.val (.int p0_0), .val (.int p0_1), .val (.int p0_2), .val (.int p0_3), .val (.int (1 : Int32)), .val (.ref u_STRING), .val (.int zt), .val (.int zs), .val (.int zc1), .val (.int zc2), .val (.int zc3), .unset, .unset, .unset, .unset, .unset, .unset, .unset] [(.int (((p0_2.toUInt32 >>> ((8 : Int32) &&& 31).toUInt32).toInt32) &&& (255 : Int32)))])) t → Steps p.tables e below (s₁.setTop (entryFrame m #[(.int p0_0), (.int p0_1), (.int p0_2), (.int p0_3)] maxLocals)) t := by
      intro t k
      refine k143 t ?_
      show Steps p.tables e below (T138.setTop (mkF m 106 #[.val (.int p0_0), .val (.int p0_1), .val (.int p0_2), .val (.int p0_3), .val (.int (1 : Int32)), .val (.ref u_STRING), .val (.int zt), .val (.int zs), .val (.int zc1), .val (.int zc2), .unset, .unset, .unset, .unset, .unset, .unset, .unset, .unset] [(.int zc3)])) _
      refine XS.istore X138.here hx rfl (hb hby at_106) rfl (l' := #[.val (.int p0_0), .val (.int p0_1), .val (.int p0_2), .val (.int p0_3), .val (.int (1 : Int32)), .val (.ref u_STRING), .val (.int zt), .val (.int zs), .val (.int zc1), .val (.int zc2), .val (.int zc3), .unset, .unset, .unset, .unset, .unset, .unset, .unset]) rfl ?_
      show Steps p.tables e below (T138.setTop (mkF m 108 #[.val (.int p0_0), .val (.int p0_1), .val (.int p0_2), .val (.int p0_3), .val (.int (1 : Int32)), .val (.ref u_STRING), .val (.int zt), .val (.int zs), .val (.int zc1), .val (.int zc2), .val (.int zc3), .unset, .unset, .unset, .unset, .unset, .unset, .unset] [])) _
      refine XS.iloadN X138.here hx rfl (hb hby at_108) rfl ?_
      show Steps p.tables e below (T138.setTop (mkF m 109 #[.val (.int p0_0), .val (.int p0_1), .val (.int p0_2), .val (.int p0_3), .val (.int (1 : Int32)), .val (.ref u_STRING), .val (.int zt), .val (.int zs), .val (.int zc1), .val (.int zc2), .val (.int zc3), .unset, .unset, .unset, .unset, .unset, .unset, .unset] [(.int p0_2)])) _
      refine XS.bipush X138.here hx rfl (hb hby at_109) ?_
      show Steps p.tables e below (T138.setTop (mkF m 111 #[.val (.int p0_0), .val (.int p0_1), .val (.int p0_2), .val (.int p0_3), .val (.int (1 : Int32)), .val (.ref u_STRING), .val (.int zt), .val (.int zs), .val (.int zc1), .val (.int zc2), .val (.int zc3), .unset, .unset, .unset, .unset, .unset, .unset, .unset] [(.int (8 : Int32)), (.int p0_2)])) _
      refine XS.iushr X138.here hx rfl (hb hby at_111) rfl ?_
      show Steps p.tables e below (T138.setTop (mkF m 112 #[.val (.int p0_0), .val (.int p0_1), .val (.int p0_2), .val (.int p0_3), .val (.int (1 : Int32)), .val (.ref u_STRING), .val (.int zt), .val (.int zs), .val (.int zc1), .val (.int zc2), .val (.int zc3), .unset, .unset, .unset, .unset, .unset, .unset, .unset] [(.int ((p0_2.toUInt32 >>> ((8 : Int32) &&& 31).toUInt32).toInt32))])) _
      refine XS.sipush X138.here hx rfl (hb hby at_112) ?_
      show Steps p.tables e below (T138.setTop (mkF m 115 #[.val (.int p0_0), .val (.int p0_1), .val (.int p0_2), .val (.int p0_3), .val (.int (1 : Int32)), .val (.ref u_STRING), .val (.int zt), .val (.int zs), .val (.int zc1), .val (.int zc2), .val (.int zc3), .unset, .unset, .unset, .unset, .unset, .unset, .unset] [(.int (255 : Int32)), (.int ((p0_2.toUInt32 >>> ((8 : Int32) &&& 31).toUInt32).toInt32))])) _
      refine XS.iand X138.here hx rfl (hb hby at_115) rfl ?_
      exact k
    obtain ⟨zd1, hzd1⟩ : ∃ z, z = (((p0_2.toUInt32 >>> ((8 : Int32) &&& 31).toUInt32).toInt32) &&& (255 : Int32)) := ⟨_, rfl⟩
    rw [← hzd1] at k144
    have hr_zd1 : ¬ (zd1 < (0 : Int32)) ∧ ¬ ((255 : Int32) < zd1) := by rw [hzd1]; exact own_m255 _
    have k145 : ∀ t, Steps p.tables e below (T138.setTop (mkF m 126 #[.val (.int p0_0), .val (.int p0_1), .val (.int p0_2), .val (.int p0_3), .val (.int (1 : Int32)), .val (.ref u_STRING), .val (.int zt), .val (.int zs), .val (.int zc1), .val (.int zc2), .val (.int zc3), .val (.int zd1), .unset, .unset, .unset, .unset, .unset, .unset] [(.int (((p0_2.toUInt32 >>> ((16 : Int32) &&& 31).toUInt32).toInt32) &&& (255 : Int32)))])) t → Steps p.tables e below (s₁.setTop (entryFrame m #[(.int p0_0), (.int p0_1), (.int p0_2), (.int p0_3)] maxLocals)) t := by
      intro t k
      refine k144 t ?_
      show Steps p.tables e below (T138.setTop (mkF m 116 #[.val (.int p0_0), .val (.int p0_1), .val (.int p0_2), .val (.int p0_3), .val (.int (1 : Int32)), .val (.ref u_STRING), .val (.int zt), .val (.int zs), .val (.int zc1), .val (.int zc2), .val (.int zc3), .unset, .unset, .unset, .unset, .unset, .unset, .unset] [(.int zd1)])) _
      refine XS.istore X138.here hx rfl (hb hby at_116) rfl (l' := #[.val (.int p0_0), .val (.int p0_1), .val (.int p0_2), .val (.int p0_3), .val (.int (1 : Int32)), .val (.ref u_STRING), .val (.int zt), .val (.int zs), .val (.int zc1), .val (.int zc2), .val (.int zc3), .val (.int zd1), .unset, .unset, .unset, .unset, .unset, .unset]) rfl ?_
      show Steps p.tables e below (T138.setTop (mkF m 118 #[.val (.int p0_0), .val (.int p0_1), .val (.int p0_2), .val (.int p0_3), .val (.int (1 : Int32)), .val (.ref u_STRING), .val (.int zt), .val (.int zs), .val (.int zc1), .val (.int zc2), .val (.int zc3), .val (.int zd1), .unset, .unset, .unset, .unset, .unset, .unset] [])) _
      refine XS.iloadN X138.here hx rfl (hb hby at_118) rfl ?_
      show Steps p.tables e below (T138.setTop (mkF m 119 #[.val (.int p0_0), .val (.int p0_1), .val (.int p0_2), .val (.int p0_3), .val (.int (1 : Int32)), .val (.ref u_STRING), .val (.int zt), .val (.int zs), .val (.int zc1), .val (.int zc2), .val (.int zc3), .val (.int zd1), .unset, .unset, .unset, .unset, .unset, .unset] [(.int p0_2)])) _
      refine XS.bipush X138.here hx rfl (hb hby at_119) ?_
      show Steps p.tables e below (T138.setTop (mkF m 121 #[.val (.int p0_0), .val (.int p0_1), .val (.int p0_2), .val (.int p0_3), .val (.int (1 : Int32)), .val (.ref u_STRING), .val (.int zt), .val (.int zs), .val (.int zc1), .val (.int zc2), .val (.int zc3), .val (.int zd1), .unset, .unset, .unset, .unset, .unset, .unset] [(.int (16 : Int32)), (.int p0_2)])) _
      refine XS.iushr X138.here hx rfl (hb hby at_121) rfl ?_
      show Steps p.tables e below (T138.setTop (mkF m 122 #[.val (.int p0_0), .val (.int p0_1), .val (.int p0_2), .val (.int p0_3), .val (.int (1 : Int32)), .val (.ref u_STRING), .val (.int zt), .val (.int zs), .val (.int zc1), .val (.int zc2), .val (.int zc3), .val (.int zd1), .unset, .unset, .unset, .unset, .unset, .unset] [(.int ((p0_2.toUInt32 >>> ((16 : Int32) &&& 31).toUInt32).toInt32))])) _
      refine XS.sipush X138.here hx rfl (hb hby at_122) ?_
      show Steps p.tables e below (T138.setTop (mkF m 125 #[.val (.int p0_0), .val (.int p0_1), .val (.int p0_2), .val (.int p0_3), .val (.int (1 : Int32)), .val (.ref u_STRING), .val (.int zt), .val (.int zs), .val (.int zc1), .val (.int zc2), .val (.int zc3), .val (.int zd1), .unset, .unset, .unset, .unset, .unset, .unset] [(.int (255 : Int32)), (.int ((p0_2.toUInt32 >>> ((16 : Int32) &&& 31).toUInt32).toInt32))])) _
      refine XS.iand X138.here hx rfl (hb hby at_125) rfl ?_
      exact k
    obtain ⟨zd2, hzd2⟩ : ∃ z, z = (((p0_2.toUInt32 >>> ((16 : Int32) &&& 31).toUInt32).toInt32) &&& (255 : Int32)) := ⟨_, rfl⟩
    rw [← hzd2] at k145
    have hr_zd2 : ¬ (zd2 < (0 : Int32)) ∧ ¬ ((255 : Int32) < zd2) := by rw [hzd2]; exact own_m255 _
    have k146 : ∀ t, Steps p.tables e below (T138.setTop (mkF m 136 #[.val (.int p0_0), .val (.int p0_1), .val (.int p0_2), .val (.int p0_3), .val (.int (1 : Int32)), .val (.ref u_STRING), .val (.int zt), .val (.int zs), .val (.int zc1), .val (.int zc2), .val (.int zc3), .val (.int zd1), .val (.int zd2), .unset, .unset, .unset, .unset, .unset] [(.int (((p0_2.toUInt32 >>> ((24 : Int32) &&& 31).toUInt32).toInt32) &&& (255 : Int32)))])) t → Steps p.tables e below (s₁.setTop (entryFrame m #[(.int p0_0), (.int p0_1), (.int p0_2), (.int p0_3)] maxLocals)) t := by
      intro t k
      refine k145 t ?_
      show Steps p.tables e below (T138.setTop (mkF m 126 #[.val (.int p0_0), .val (.int p0_1), .val (.int p0_2), .val (.int p0_3), .val (.int (1 : Int32)), .val (.ref u_STRING), .val (.int zt), .val (.int zs), .val (.int zc1), .val (.int zc2), .val (.int zc3), .val (.int zd1), .unset, .unset, .unset, .unset, .unset, .unset] [(.int zd2)])) _
      refine XS.istore X138.here hx rfl (hb hby at_126) rfl (l' := #[.val (.int p0_0), .val (.int p0_1), .val (.int p0_2), .val (.int p0_3), .val (.int (1 : Int32)), .val (.ref u_STRING), .val (.int zt), .val (.int zs), .val (.int zc1), .val (.int zc2), .val (.int zc3), .val (.int zd1), .val (.int zd2), .unset, .unset, .unset, .unset, .unset]) rfl ?_
      show Steps p.tables e below (T138.setTop (mkF m 128 #[.val (.int p0_0), .val (.int p0_1), .val (.int p0_2), .val (.int p0_3), .val (.int (1 : Int32)), .val (.ref u_STRING), .val (.int zt), .val (.int zs), .val (.int zc1), .val (.int zc2), .val (.int zc3), .val (.int zd1), .val (.int zd2), .unset, .unset, .unset, .unset, .unset] [])) _
      refine XS.iloadN X138.here hx rfl (hb hby at_128) rfl ?_
      show Steps p.tables e below (T138.setTop (mkF m 129 #[.val (.int p0_0), .val (.int p0_1), .val (.int p0_2), .val (.int p0_3), .val (.int (1 : Int32)), .val (.ref u_STRING), .val (.int zt), .val (.int zs), .val (.int zc1), .val (.int zc2), .val (.int zc3), .val (.int zd1), .val (.int zd2), .unset, .unset, .unset, .unset, .unset] [(.int p0_2)])) _
      refine XS.bipush X138.here hx rfl (hb hby at_129) ?_
      show Steps p.tables e below (T138.setTop (mkF m 131 #[.val (.int p0_0), .val (.int p0_1), .val (.int p0_2), .val (.int p0_3), .val (.int (1 : Int32)), .val (.ref u_STRING), .val (.int zt), .val (.int zs), .val (.int zc1), .val (.int zc2), .val (.int zc3), .val (.int zd1), .val (.int zd2), .unset, .unset, .unset, .unset, .unset] [(.int (24 : Int32)), (.int p0_2)])) _
      refine XS.iushr X138.here hx rfl (hb hby at_131) rfl ?_
      show Steps p.tables e below (T138.setTop (mkF m 132 #[.val (.int p0_0), .val (.int p0_1), .val (.int p0_2), .val (.int p0_3), .val (.int (1 : Int32)), .val (.ref u_STRING), .val (.int zt), .val (.int zs), .val (.int zc1), .val (.int zc2), .val (.int zc3), .val (.int zd1), .val (.int zd2), .unset, .unset, .unset, .unset, .unset] [(.int ((p0_2.toUInt32 >>> ((24 : Int32) &&& 31).toUInt32).toInt32))])) _
      refine XS.sipush X138.here hx rfl (hb hby at_132) ?_
      show Steps p.tables e below (T138.setTop (mkF m 135 #[.val (.int p0_0), .val (.int p0_1), .val (.int p0_2), .val (.int p0_3), .val (.int (1 : Int32)), .val (.ref u_STRING), .val (.int zt), .val (.int zs), .val (.int zc1), .val (.int zc2), .val (.int zc3), .val (.int zd1), .val (.int zd2), .unset, .unset, .unset, .unset, .unset] [(.int (255 : Int32)), (.int ((p0_2.toUInt32 >>> ((24 : Int32) &&& 31).toUInt32).toInt32))])) _
      refine XS.iand X138.here hx rfl (hb hby at_135) rfl ?_
      exact k
    obtain ⟨zd3, hzd3⟩ : ∃ z, z = (((p0_2.toUInt32 >>> ((24 : Int32) &&& 31).toUInt32).toInt32) &&& (255 : Int32)) := ⟨_, rfl⟩
    rw [← hzd3] at k146
    have hr_zd3 : ¬ (zd3 < (0 : Int32)) ∧ ¬ ((255 : Int32) < zd3) := by rw [hzd3]; exact own_m255 _
    have k147 : ∀ t, Steps p.tables e below (T138.setTop (mkF m 143 #[.val (.int p0_0), .val (.int p0_1), .val (.int p0_2), .val (.int p0_3), .val (.int (1 : Int32)), .val (.ref u_STRING), .val (.int zt), .val (.int zs), .val (.int zc1), .val (.int zc2), .val (.int zc3), .val (.int zd1), .val (.int zd2), .val (.int zd3), .unset, .unset, .unset, .unset] [(.int zc1.toUInt32.toUInt16.toUInt32.toInt32), (.int zt)])) t → Steps p.tables e below (s₁.setTop (entryFrame m #[(.int p0_0), (.int p0_1), (.int p0_2), (.int p0_3)] maxLocals)) t := by
      intro t k
      refine k146 t ?_
      show Steps p.tables e below (T138.setTop (mkF m 136 #[.val (.int p0_0), .val (.int p0_1), .val (.int p0_2), .val (.int p0_3), .val (.int (1 : Int32)), .val (.ref u_STRING), .val (.int zt), .val (.int zs), .val (.int zc1), .val (.int zc2), .val (.int zc3), .val (.int zd1), .val (.int zd2), .unset, .unset, .unset, .unset, .unset] [(.int zd3)])) _
      refine XS.istore X138.here hx rfl (hb hby at_136) rfl (l' := #[.val (.int p0_0), .val (.int p0_1), .val (.int p0_2), .val (.int p0_3), .val (.int (1 : Int32)), .val (.ref u_STRING), .val (.int zt), .val (.int zs), .val (.int zc1), .val (.int zc2), .val (.int zc3), .val (.int zd1), .val (.int zd2), .val (.int zd3), .unset, .unset, .unset, .unset]) rfl ?_
      show Steps p.tables e below (T138.setTop (mkF m 138 #[.val (.int p0_0), .val (.int p0_1), .val (.int p0_2), .val (.int p0_3), .val (.int (1 : Int32)), .val (.ref u_STRING), .val (.int zt), .val (.int zs), .val (.int zc1), .val (.int zc2), .val (.int zc3), .val (.int zd1), .val (.int zd2), .val (.int zd3), .unset, .unset, .unset, .unset] [])) _
      refine XS.iload X138.here hx rfl (hb hby at_138) rfl ?_
      show Steps p.tables e below (T138.setTop (mkF m 140 #[.val (.int p0_0), .val (.int p0_1), .val (.int p0_2), .val (.int p0_3), .val (.int (1 : Int32)), .val (.ref u_STRING), .val (.int zt), .val (.int zs), .val (.int zc1), .val (.int zc2), .val (.int zc3), .val (.int zd1), .val (.int zd2), .val (.int zd3), .unset, .unset, .unset, .unset] [(.int zt)])) _
      refine XS.iload X138.here hx rfl (hb hby at_140) rfl ?_
      show Steps p.tables e below (T138.setTop (mkF m 142 #[.val (.int p0_0), .val (.int p0_1), .val (.int p0_2), .val (.int p0_3), .val (.int (1 : Int32)), .val (.ref u_STRING), .val (.int zt), .val (.int zs), .val (.int zc1), .val (.int zc2), .val (.int zc3), .val (.int zd1), .val (.int zd2), .val (.int zd3), .unset, .unset, .unset, .unset] [(.int zc1), (.int zt)])) _
      refine XS.i2c X138.here hx rfl (hb hby at_142) rfl ?_
      exact k
    rw [show zc1.toUInt32.toUInt16.toUInt32.toInt32 = zc1 from own_i2c _ hr_zc1] at k147
    have k148 : ∀ t, Steps p.tables e below (T138.setTop (mkF m 146 #[.val (.int p0_0), .val (.int p0_1), .val (.int p0_2), .val (.int p0_3), .val (.int (1 : Int32)), .val (.ref u_STRING), .val (.int zt), .val (.int zs), .val (.int zc1), .val (.int zc2), .val (.int zc3), .val (.int zd1), .val (.int zd2), .val (.int zd3), .unset, .unset, .unset, .unset] [(.int zc2.toUInt32.toUInt16.toUInt32.toInt32), (.int zc1), (.int zt)])) t → Steps p.tables e below (s₁.setTop (entryFrame m #[(.int p0_0), (.int p0_1), (.int p0_2), (.int p0_3)] maxLocals)) t := by
      intro t k
      refine k147 t ?_
      show Steps p.tables e below (T138.setTop (mkF m 143 #[.val (.int p0_0), .val (.int p0_1), .val (.int p0_2), .val (.int p0_3), .val (.int (1 : Int32)), .val (.ref u_STRING), .val (.int zt), .val (.int zs), .val (.int zc1), .val (.int zc2), .val (.int zc3), .val (.int zd1), .val (.int zd2), .val (.int zd3), .unset, .unset, .unset, .unset] [(.int zc1), (.int zt)])) _
      refine XS.iload X138.here hx rfl (hb hby at_143) rfl ?_
      show Steps p.tables e below (T138.setTop (mkF m 145 #[.val (.int p0_0), .val (.int p0_1), .val (.int p0_2), .val (.int p0_3), .val (.int (1 : Int32)), .val (.ref u_STRING), .val (.int zt), .val (.int zs), .val (.int zc1), .val (.int zc2), .val (.int zc3), .val (.int zd1), .val (.int zd2), .val (.int zd3), .unset, .unset, .unset, .unset] [(.int zc2), (.int zc1), (.int zt)])) _
      refine XS.i2c X138.here hx rfl (hb hby at_145) rfl ?_
      exact k
    rw [show zc2.toUInt32.toUInt16.toUInt32.toInt32 = zc2 from own_i2c _ hr_zc2] at k148
    have k149 : ∀ t, Steps p.tables e below (T138.setTop (mkF m 149 #[.val (.int p0_0), .val (.int p0_1), .val (.int p0_2), .val (.int p0_3), .val (.int (1 : Int32)), .val (.ref u_STRING), .val (.int zt), .val (.int zs), .val (.int zc1), .val (.int zc2), .val (.int zc3), .val (.int zd1), .val (.int zd2), .val (.int zd3), .unset, .unset, .unset, .unset] [(.int zc3.toUInt32.toUInt16.toUInt32.toInt32), (.int zc2), (.int zc1), (.int zt)])) t → Steps p.tables e below (s₁.setTop (entryFrame m #[(.int p0_0), (.int p0_1), (.int p0_2), (.int p0_3)] maxLocals)) t := by
      intro t k
      refine k148 t ?_
      show Steps p.tables e below (T138.setTop (mkF m 146 #[.val (.int p0_0), .val (.int p0_1), .val (.int p0_2), .val (.int p0_3), .val (.int (1 : Int32)), .val (.ref u_STRING), .val (.int zt), .val (.int zs), .val (.int zc1), .val (.int zc2), .val (.int zc3), .val (.int zd1), .val (.int zd2), .val (.int zd3), .unset, .unset, .unset, .unset] [(.int zc2), (.int zc1), (.int zt)])) _
      refine XS.iload X138.here hx rfl (hb hby at_146) rfl ?_
      show Steps p.tables e below (T138.setTop (mkF m 148 #[.val (.int p0_0), .val (.int p0_1), .val (.int p0_2), .val (.int p0_3), .val (.int (1 : Int32)), .val (.ref u_STRING), .val (.int zt), .val (.int zs), .val (.int zc1), .val (.int zc2), .val (.int zc3), .val (.int zd1), .val (.int zd2), .val (.int zd3), .unset, .unset, .unset, .unset] [(.int zc3), (.int zc2), (.int zc1), (.int zt)])) _
      refine XS.i2c X138.here hx rfl (hb hby at_148) rfl ?_
      exact k
    rw [show zc3.toUInt32.toUInt16.toUInt32.toInt32 = zc3 from own_i2c _ hr_zc3] at k149
    obtain ⟨_, _, ⟨T150, L150, k150, n150⟩, -, X150, hS2, hg2, ⟨Lc150, hQ150, l150, y150, z150, hC150⟩, st150⟩ := callSS X138 hx (y := (⟨"com/example/oyster/oyster/engine/TokenIsSymbolPinLaw", "make", "(ICCC)Ljava/lang/String;"⟩ : MethodName)) hown (mvT hZ (hw _ (List.mem_of_getElem? (i := 4) rfl))) (mvT hZ (hw _ (List.mem_of_getElem? (i := 5) rfl))) (mvT hZ (hw _ (List.mem_of_getElem? (i := 6) rfl))) (mvT hZ (hw _ (List.mem_of_getElem? (i := 7) rfl))) (by decide) (backOfSH (W := 0) (rm3 l Z a0 hw [] hEL wS zt zc1 zc2 zc3 cs h0 n0 Z0 Sc hcs hr_zc1.1 hr_zc1.2 hr_zc2.1 hr_zc2.2 hr_zc3.1 hr_zc3.2) hZ (hw _ (List.mem_of_getElem? (i := 7) rfl)) (hw _ (List.mem_of_getElem? (i := 6) rfl)) (by decide) (by decide) hEL hCR.1) (g := (mkF m 149 #[.val (.int p0_0), .val (.int p0_1), .val (.int p0_2), .val (.int p0_3), .val (.int (1 : Int32)), .val (.ref u_STRING), .val (.int zt), .val (.int zs), .val (.int zc1), .val (.int zc2), .val (.int zc3), .val (.int zd1), .val (.int zd2), .val (.int zd3), .unset, .unset, .unset, .unset] [(.int zc3), (.int zc2), (.int zc1), (.int zt)])) rfl (by rw [hml]; rfl) (argsL := [(.int zt), (.int zc1), (.int zc2), (.int zc3)]) (rest := []) (lenOf pd_4 rfl) rfl (by show 2 * 0 + _ ≤ _; exact Nat.le_of_eq rfl) (hb hby at_149) (fun _ _ => ⟨rfl, e138, (by decide : 0 + 6 ≤ _), (by decide : 0 + 12 ≤ _)⟩)
    dsimp only [Pt.U, Pt.locs, Pt.cells, Pt.slots] at X150 hS2 hg2 hC150 l150 y150 z150 st150 hQ150
    subst l150 y150 z150
    obtain ⟨X150, hS, hZ, hown⟩ := rebS hS (by rw [e138]; exact hk) X150 hS2 hg2 hZ hown
    have hk := Nat.le_refl T150.heap.size
    have hCR := hCR.trans hC150
    obtain ⟨x3_150, d3_150, kv3_150, rfl, N150q, Kc150, ggx3_150, szx3_150, G150_0, G150_1, G150_2, G150_3⟩ := hQ150
    have ne151 : u_NUMBER ≠ x3_150 := Nat.ne_of_lt (Nat.lt_of_lt_of_le E_u_NUMBER.lt szx3_150)
    have ne152 : u_SYMBOL ≠ x3_150 := Nat.ne_of_lt (Nat.lt_of_lt_of_le E_u_SYMBOL.lt szx3_150)
    have ne153 : u_NAME ≠ x3_150 := Nat.ne_of_lt (Nat.lt_of_lt_of_le E_u_NAME.lt szx3_150)
    have ne154 : u_END ≠ x3_150 := Nat.ne_of_lt (Nat.lt_of_lt_of_le E_u_END.lt szx3_150)
    have ne155 : u_STRING ≠ x3_150 := Nat.ne_of_lt (Nat.lt_of_lt_of_le E_u_STRING.lt szx3_150)
    have Zs150 : n0 ≤ T150.heap.size := Nat.le_trans Z0 Kc150.1
    have F156 : Sta Z T150.heap "com/example/oyster/oyster/engine/Tokens$Kind" "NUMBER" "Lcom/example/oyster/oyster/engine/Tokens$Kind;" (.ref u_NUMBER) := own_stakeep S_NUMBER Kc150 all0
    have F157 : Exa Z T150.heap u_NUMBER "com/example/oyster/oyster/engine/Tokens$Kind" := E_u_NUMBER.keep Kc150
    have F158 : Sta Z T150.heap "com/example/oyster/oyster/engine/Tokens$Kind" "SYMBOL" "Lcom/example/oyster/oyster/engine/Tokens$Kind;" (.ref u_SYMBOL) := own_stakeep S_SYMBOL Kc150 all0
    have F159 : Exa Z T150.heap u_SYMBOL "com/example/oyster/oyster/engine/Tokens$Kind" := E_u_SYMBOL.keep Kc150
    have F160 : Fld Z T150.heap u_NUMBER "java/lang/Enum" "ordinal" "I" (.int (0 : Int32)) := F_u_NUMBER_ordinal.keep Kc150 nin0
    have F161 : Fld Z T150.heap u_SYMBOL "java/lang/Enum" "ordinal" "I" (.int (3 : Int32)) := F_u_SYMBOL_ordinal.keep Kc150 nin0
    have F162 : Sta Z T150.heap "com/example/oyster/oyster/engine/Tokens$Kind" "NAME" "Lcom/example/oyster/oyster/engine/Tokens$Kind;" (.ref u_NAME) := own_stakeep S_NAME Kc150 all0
    have F163 : Exa Z T150.heap u_NAME "com/example/oyster/oyster/engine/Tokens$Kind" := E_u_NAME.keep Kc150
    have F164 : Fld Z T150.heap u_NAME "java/lang/Enum" "ordinal" "I" (.int (2 : Int32)) := F_u_NAME_ordinal.keep Kc150 nin0
    have F165 : Sta Z T150.heap "com/example/oyster/oyster/engine/Tokens$Kind" "END" "Lcom/example/oyster/oyster/engine/Tokens$Kind;" (.ref u_END) := own_stakeep S_END Kc150 all0
    have F166 : Exa Z T150.heap u_END "com/example/oyster/oyster/engine/Tokens$Kind" := E_u_END.keep Kc150
    have F167 : Fld Z T150.heap u_END "java/lang/Enum" "ordinal" "I" (.int (4 : Int32)) := F_u_END_ordinal.keep Kc150 nin0
    have F168 : Sta Z T150.heap "com/example/oyster/oyster/engine/Tokens$Kind" "STRING" "Lcom/example/oyster/oyster/engine/Tokens$Kind;" (.ref u_STRING) := own_stakeep S_STRING Kc150 all0
    have F169 : Exa Z T150.heap u_STRING "com/example/oyster/oyster/engine/Tokens$Kind" := E_u_STRING.keep Kc150
    have F170 : Fld Z T150.heap u_STRING "java/lang/Enum" "ordinal" "I" (.int (1 : Int32)) := F_u_STRING_ordinal.keep Kc150 nin0
    have F171 : Sta Z T150.heap "java/lang/String" "COMPACT_STRINGS" "Z" (.int cs) := own_stakeep Sc Kc150 all0
    have N150 := Fr.app N0 N150q
    have k172 : ∀ t, Steps p.tables e below (T150.setTop (mkF m 161 #[.val (.int p0_0), .val (.int p0_1), .val (.int p0_2), .val (.int p0_3), .val (.int (1 : Int32)), .val (.ref u_STRING), .val (.int zt), .val (.int zs), .val (.int zc1), .val (.int zc2), .val (.int zc3), .val (.int zd1), .val (.int zd2), .val (.int zd3), .val (.ref x3_150), .unset, .unset, .unset] [(.int (zc1 ^^^ zd1)), (.int zs)])) t → Steps p.tables e below (s₁.setTop (entryFrame m #[(.int p0_0), (.int p0_1), (.int p0_2), (.int p0_3)] maxLocals)) t := by
      intro t k
      refine k149 t ?_
      show Steps p.tables e below (T138.setTop (mkF m 149 #[.val (.int p0_0), .val (.int p0_1), .val (.int p0_2), .val (.int p0_3), .val (.int (1 : Int32)), .val (.ref u_STRING), .val (.int zt), .val (.int zs), .val (.int zc1), .val (.int zc2), .val (.int zc3), .val (.int zd1), .val (.int zd2), .val (.int zd3), .unset, .unset, .unset, .unset] [(.int zc3), (.int zc2), (.int zc1), (.int zt)])) _
      refine st150.trans ?_
      show Steps p.tables e below (T150.setTop (mkF m 152 #[.val (.int p0_0), .val (.int p0_1), .val (.int p0_2), .val (.int p0_3), .val (.int (1 : Int32)), .val (.ref u_STRING), .val (.int zt), .val (.int zs), .val (.int zc1), .val (.int zc2), .val (.int zc3), .val (.int zd1), .val (.int zd2), .val (.int zd3), .unset, .unset, .unset, .unset] [(.ref x3_150)])) _
      refine XS.astore X150.here hx rfl (hb hby at_152) rfl rfl (l' := #[.val (.int p0_0), .val (.int p0_1), .val (.int p0_2), .val (.int p0_3), .val (.int (1 : Int32)), .val (.ref u_STRING), .val (.int zt), .val (.int zs), .val (.int zc1), .val (.int zc2), .val (.int zc3), .val (.int zd1), .val (.int zd2), .val (.int zd3), .val (.ref x3_150), .unset, .unset, .unset]) rfl ?_
      show Steps p.tables e below (T150.setTop (mkF m 154 #[.val (.int p0_0), .val (.int p0_1), .val (.int p0_2), .val (.int p0_3), .val (.int (1 : Int32)), .val (.ref u_STRING), .val (.int zt), .val (.int zs), .val (.int zc1), .val (.int zc2), .val (.int zc3), .val (.int zd1), .val (.int zd2), .val (.int zd3), .val (.ref x3_150), .unset, .unset, .unset] [])) _
      refine XS.iload X150.here hx rfl (hb hby at_154) rfl ?_
      show Steps p.tables e below (T150.setTop (mkF m 156 #[.val (.int p0_0), .val (.int p0_1), .val (.int p0_2), .val (.int p0_3), .val (.int (1 : Int32)), .val (.ref u_STRING), .val (.int zt), .val (.int zs), .val (.int zc1), .val (.int zc2), .val (.int zc3), .val (.int zd1), .val (.int zd2), .val (.int zd3), .val (.ref x3_150), .unset, .unset, .unset] [(.int zs)])) _
      refine XS.iload X150.here hx rfl (hb hby at_156) rfl ?_
      show Steps p.tables e below (T150.setTop (mkF m 158 #[.val (.int p0_0), .val (.int p0_1), .val (.int p0_2), .val (.int p0_3), .val (.int (1 : Int32)), .val (.ref u_STRING), .val (.int zt), .val (.int zs), .val (.int zc1), .val (.int zc2), .val (.int zc3), .val (.int zd1), .val (.int zd2), .val (.int zd3), .val (.ref x3_150), .unset, .unset, .unset] [(.int zc1), (.int zs)])) _
      refine XS.iload X150.here hx rfl (hb hby at_158) rfl ?_
      show Steps p.tables e below (T150.setTop (mkF m 160 #[.val (.int p0_0), .val (.int p0_1), .val (.int p0_2), .val (.int p0_3), .val (.int (1 : Int32)), .val (.ref u_STRING), .val (.int zt), .val (.int zs), .val (.int zc1), .val (.int zc2), .val (.int zc3), .val (.int zd1), .val (.int zd2), .val (.int zd3), .val (.ref x3_150), .unset, .unset, .unset] [(.int zd1), (.int zc1), (.int zs)])) _
      refine XS.ixor X150.here hx rfl (hb hby at_160) rfl ?_
      exact k
    obtain ⟨zx1, hzx1⟩ : ∃ z, z = (zc1 ^^^ zd1) := ⟨_, rfl⟩
    rw [← hzx1] at k172
    have hr_zx1 : ¬ (zx1 < (0 : Int32)) ∧ ¬ ((255 : Int32) < zx1) := by rw [hzx1]; exact own_xorr _ _ hr_zc1 hr_zd1
    have k173 : ∀ t, Steps p.tables e below (T150.setTop (mkF m 162 #[.val (.int p0_0), .val (.int p0_1), .val (.int p0_2), .val (.int p0_3), .val (.int (1 : Int32)), .val (.ref u_STRING), .val (.int zt), .val (.int zs), .val (.int zc1), .val (.int zc2), .val (.int zc3), .val (.int zd1), .val (.int zd2), .val (.int zd3), .val (.ref x3_150), .unset, .unset, .unset] [(.int zx1.toUInt32.toUInt16.toUInt32.toInt32), (.int zs)])) t → Steps p.tables e below (s₁.setTop (entryFrame m #[(.int p0_0), (.int p0_1), (.int p0_2), (.int p0_3)] maxLocals)) t := by
      intro t k
      refine k172 t ?_
      show Steps p.tables e below (T150.setTop (mkF m 161 #[.val (.int p0_0), .val (.int p0_1), .val (.int p0_2), .val (.int p0_3), .val (.int (1 : Int32)), .val (.ref u_STRING), .val (.int zt), .val (.int zs), .val (.int zc1), .val (.int zc2), .val (.int zc3), .val (.int zd1), .val (.int zd2), .val (.int zd3), .val (.ref x3_150), .unset, .unset, .unset] [(.int zx1), (.int zs)])) _
      refine XS.i2c X150.here hx rfl (hb hby at_161) rfl ?_
      exact k
    rw [show zx1.toUInt32.toUInt16.toUInt32.toInt32 = zx1 from own_i2c _ hr_zx1] at k173
    have k174 : ∀ t, Steps p.tables e below (T150.setTop (mkF m 167 #[.val (.int p0_0), .val (.int p0_1), .val (.int p0_2), .val (.int p0_3), .val (.int (1 : Int32)), .val (.ref u_STRING), .val (.int zt), .val (.int zs), .val (.int zc1), .val (.int zc2), .val (.int zc3), .val (.int zd1), .val (.int zd2), .val (.int zd3), .val (.ref x3_150), .unset, .unset, .unset] [(.int (zc2 ^^^ zd2)), (.int zx1), (.int zs)])) t → Steps p.tables e below (s₁.setTop (entryFrame m #[(.int p0_0), (.int p0_1), (.int p0_2), (.int p0_3)] maxLocals)) t := by
      intro t k
      refine k173 t ?_
      show Steps p.tables e below (T150.setTop (mkF m 162 #[.val (.int p0_0), .val (.int p0_1), .val (.int p0_2), .val (.int p0_3), .val (.int (1 : Int32)), .val (.ref u_STRING), .val (.int zt), .val (.int zs), .val (.int zc1), .val (.int zc2), .val (.int zc3), .val (.int zd1), .val (.int zd2), .val (.int zd3), .val (.ref x3_150), .unset, .unset, .unset] [(.int zx1), (.int zs)])) _
      refine XS.iload X150.here hx rfl (hb hby at_162) rfl ?_
      show Steps p.tables e below (T150.setTop (mkF m 164 #[.val (.int p0_0), .val (.int p0_1), .val (.int p0_2), .val (.int p0_3), .val (.int (1 : Int32)), .val (.ref u_STRING), .val (.int zt), .val (.int zs), .val (.int zc1), .val (.int zc2), .val (.int zc3), .val (.int zd1), .val (.int zd2), .val (.int zd3), .val (.ref x3_150), .unset, .unset, .unset] [(.int zc2), (.int zx1), (.int zs)])) _
      refine XS.iload X150.here hx rfl (hb hby at_164) rfl ?_
      show Steps p.tables e below (T150.setTop (mkF m 166 #[.val (.int p0_0), .val (.int p0_1), .val (.int p0_2), .val (.int p0_3), .val (.int (1 : Int32)), .val (.ref u_STRING), .val (.int zt), .val (.int zs), .val (.int zc1), .val (.int zc2), .val (.int zc3), .val (.int zd1), .val (.int zd2), .val (.int zd3), .val (.ref x3_150), .unset, .unset, .unset] [(.int zd2), (.int zc2), (.int zx1), (.int zs)])) _
      refine XS.ixor X150.here hx rfl (hb hby at_166) rfl ?_
      exact k
    obtain ⟨zx2, hzx2⟩ : ∃ z, z = (zc2 ^^^ zd2) := ⟨_, rfl⟩
    rw [← hzx2] at k174
    have hr_zx2 : ¬ (zx2 < (0 : Int32)) ∧ ¬ ((255 : Int32) < zx2) := by rw [hzx2]; exact own_xorr _ _ hr_zc2 hr_zd2
    have k175 : ∀ t, Steps p.tables e below (T150.setTop (mkF m 168 #[.val (.int p0_0), .val (.int p0_1), .val (.int p0_2), .val (.int p0_3), .val (.int (1 : Int32)), .val (.ref u_STRING), .val (.int zt), .val (.int zs), .val (.int zc1), .val (.int zc2), .val (.int zc3), .val (.int zd1), .val (.int zd2), .val (.int zd3), .val (.ref x3_150), .unset, .unset, .unset] [(.int zx2.toUInt32.toUInt16.toUInt32.toInt32), (.int zx1), (.int zs)])) t → Steps p.tables e below (s₁.setTop (entryFrame m #[(.int p0_0), (.int p0_1), (.int p0_2), (.int p0_3)] maxLocals)) t := by
      intro t k
      refine k174 t ?_
      show Steps p.tables e below (T150.setTop (mkF m 167 #[.val (.int p0_0), .val (.int p0_1), .val (.int p0_2), .val (.int p0_3), .val (.int (1 : Int32)), .val (.ref u_STRING), .val (.int zt), .val (.int zs), .val (.int zc1), .val (.int zc2), .val (.int zc3), .val (.int zd1), .val (.int zd2), .val (.int zd3), .val (.ref x3_150), .unset, .unset, .unset] [(.int zx2), (.int zx1), (.int zs)])) _
      refine XS.i2c X150.here hx rfl (hb hby at_167) rfl ?_
      exact k
    rw [show zx2.toUInt32.toUInt16.toUInt32.toInt32 = zx2 from own_i2c _ hr_zx2] at k175
    have k176 : ∀ t, Steps p.tables e below (T150.setTop (mkF m 173 #[.val (.int p0_0), .val (.int p0_1), .val (.int p0_2), .val (.int p0_3), .val (.int (1 : Int32)), .val (.ref u_STRING), .val (.int zt), .val (.int zs), .val (.int zc1), .val (.int zc2), .val (.int zc3), .val (.int zd1), .val (.int zd2), .val (.int zd3), .val (.ref x3_150), .unset, .unset, .unset] [(.int (zc3 ^^^ zd3)), (.int zx2), (.int zx1), (.int zs)])) t → Steps p.tables e below (s₁.setTop (entryFrame m #[(.int p0_0), (.int p0_1), (.int p0_2), (.int p0_3)] maxLocals)) t := by
      intro t k
      refine k175 t ?_
      show Steps p.tables e below (T150.setTop (mkF m 168 #[.val (.int p0_0), .val (.int p0_1), .val (.int p0_2), .val (.int p0_3), .val (.int (1 : Int32)), .val (.ref u_STRING), .val (.int zt), .val (.int zs), .val (.int zc1), .val (.int zc2), .val (.int zc3), .val (.int zd1), .val (.int zd2), .val (.int zd3), .val (.ref x3_150), .unset, .unset, .unset] [(.int zx2), (.int zx1), (.int zs)])) _
      refine XS.iload X150.here hx rfl (hb hby at_168) rfl ?_
      show Steps p.tables e below (T150.setTop (mkF m 170 #[.val (.int p0_0), .val (.int p0_1), .val (.int p0_2), .val (.int p0_3), .val (.int (1 : Int32)), .val (.ref u_STRING), .val (.int zt), .val (.int zs), .val (.int zc1), .val (.int zc2), .val (.int zc3), .val (.int zd1), .val (.int zd2), .val (.int zd3), .val (.ref x3_150), .unset, .unset, .unset] [(.int zc3), (.int zx2), (.int zx1), (.int zs)])) _
      refine XS.iload X150.here hx rfl (hb hby at_170) rfl ?_
      show Steps p.tables e below (T150.setTop (mkF m 172 #[.val (.int p0_0), .val (.int p0_1), .val (.int p0_2), .val (.int p0_3), .val (.int (1 : Int32)), .val (.ref u_STRING), .val (.int zt), .val (.int zs), .val (.int zc1), .val (.int zc2), .val (.int zc3), .val (.int zd1), .val (.int zd2), .val (.int zd3), .val (.ref x3_150), .unset, .unset, .unset] [(.int zd3), (.int zc3), (.int zx2), (.int zx1), (.int zs)])) _
      refine XS.ixor X150.here hx rfl (hb hby at_172) rfl ?_
      exact k
    obtain ⟨zx3, hzx3⟩ : ∃ z, z = (zc3 ^^^ zd3) := ⟨_, rfl⟩
    rw [← hzx3] at k176
    have hr_zx3 : ¬ (zx3 < (0 : Int32)) ∧ ¬ ((255 : Int32) < zx3) := by rw [hzx3]; exact own_xorr _ _ hr_zc3 hr_zd3
    have k177 : ∀ t, Steps p.tables e below (T150.setTop (mkF m 174 #[.val (.int p0_0), .val (.int p0_1), .val (.int p0_2), .val (.int p0_3), .val (.int (1 : Int32)), .val (.ref u_STRING), .val (.int zt), .val (.int zs), .val (.int zc1), .val (.int zc2), .val (.int zc3), .val (.int zd1), .val (.int zd2), .val (.int zd3), .val (.ref x3_150), .unset, .unset, .unset] [(.int zx3.toUInt32.toUInt16.toUInt32.toInt32), (.int zx2), (.int zx1), (.int zs)])) t → Steps p.tables e below (s₁.setTop (entryFrame m #[(.int p0_0), (.int p0_1), (.int p0_2), (.int p0_3)] maxLocals)) t := by
      intro t k
      refine k176 t ?_
      show Steps p.tables e below (T150.setTop (mkF m 173 #[.val (.int p0_0), .val (.int p0_1), .val (.int p0_2), .val (.int p0_3), .val (.int (1 : Int32)), .val (.ref u_STRING), .val (.int zt), .val (.int zs), .val (.int zc1), .val (.int zc2), .val (.int zc3), .val (.int zd1), .val (.int zd2), .val (.int zd3), .val (.ref x3_150), .unset, .unset, .unset] [(.int zx3), (.int zx2), (.int zx1), (.int zs)])) _
      refine XS.i2c X150.here hx rfl (hb hby at_173) rfl ?_
      exact k
    rw [show zx3.toUInt32.toUInt16.toUInt32.toInt32 = zx3 from own_i2c _ hr_zx3] at k177
    obtain ⟨_, _, ⟨T178, L178, k178, n178⟩, -, X178, hS2, hg2, ⟨Lc178, hQ178, l178, y178, z178, hC178⟩, st178⟩ := callSS X150 hx (y := (⟨"com/example/oyster/oyster/engine/TokenIsSymbolPinLaw", "make", "(ICCC)Ljava/lang/String;"⟩ : MethodName)) hown (mvT hZ (hw _ (List.mem_of_getElem? (i := 4) rfl))) (mvT hZ (hw _ (List.mem_of_getElem? (i := 5) rfl))) (mvT hZ (hw _ (List.mem_of_getElem? (i := 6) rfl))) (mvT hZ (hw _ (List.mem_of_getElem? (i := 7) rfl))) (by decide) (backOfSH (W := 0) (rm3 l Z a0 hw [] hEL wS zs zx1 zx2 zx3 cs T150.heap n0 Zs150 F171 hcs hr_zx1.1 hr_zx1.2 hr_zx2.1 hr_zx2.2 hr_zx3.1 hr_zx3.2) hZ (hw _ (List.mem_of_getElem? (i := 7) rfl)) (hw _ (List.mem_of_getElem? (i := 6) rfl)) (by decide) (by decide) hEL hCR.1) (g := (mkF m 174 #[.val (.int p0_0), .val (.int p0_1), .val (.int p0_2), .val (.int p0_3), .val (.int (1 : Int32)), .val (.ref u_STRING), .val (.int zt), .val (.int zs), .val (.int zc1), .val (.int zc2), .val (.int zc3), .val (.int zd1), .val (.int zd2), .val (.int zd3), .val (.ref x3_150), .unset, .unset, .unset] [(.int zx3), (.int zx2), (.int zx1), (.int zs)])) rfl (by rw [hml]; rfl) (argsL := [(.int zs), (.int zx1), (.int zx2), (.int zx3)]) (rest := []) (lenOf pd_4 rfl) rfl (by show 2 * 0 + _ ≤ _; exact Nat.le_of_eq rfl) (hb hby at_174) (fun _ _ => ⟨rfl, rfl, (by decide : 6 + 6 ≤ _), (by decide : 12 + 12 ≤ _)⟩)
    dsimp only [Pt.U, Pt.locs, Pt.cells, Pt.slots] at X178 hS2 hg2 hC178 l178 y178 z178 st178 hQ178
    subst l178 y178 z178
    obtain ⟨X178, hS, hZ, hown⟩ := rebS hS hk X178 hS2 hg2 hZ hown
    have hk := Nat.le_refl T178.heap.size
    have hCR := hCR.trans hC178
    obtain ⟨x3_178, d3_178, kv3_178, rfl, N178q, Kc178, ggx3_178, szx3_178, G178_0, G178_1, G178_2, G178_3⟩ := hQ178
    have ne179 : u_NUMBER ≠ x3_178 := Nat.ne_of_lt (Nat.lt_of_lt_of_le F157.lt szx3_178)
    have ne180 : u_SYMBOL ≠ x3_178 := Nat.ne_of_lt (Nat.lt_of_lt_of_le F159.lt szx3_178)
    have ne181 : u_NAME ≠ x3_178 := Nat.ne_of_lt (Nat.lt_of_lt_of_le F163.lt szx3_178)
    have ne182 : u_END ≠ x3_178 := Nat.ne_of_lt (Nat.lt_of_lt_of_le F166.lt szx3_178)
    have ne183 : u_STRING ≠ x3_178 := Nat.ne_of_lt (Nat.lt_of_lt_of_le F169.lt szx3_178)
    have ne184 : x3_150 ≠ x3_178 := Nat.ne_of_lt (Nat.lt_of_lt_of_le G150_0.lt szx3_178)
    have ne185 : d3_150 ≠ x3_178 := Nat.ne_of_lt (Nat.lt_of_lt_of_le G150_3.lt szx3_178)
    have Zs178 : n0 ≤ T178.heap.size := Nat.le_trans Zs150 Kc178.1
    have F186 : Sta Z T178.heap "com/example/oyster/oyster/engine/Tokens$Kind" "NUMBER" "Lcom/example/oyster/oyster/engine/Tokens$Kind;" (.ref u_NUMBER) := own_stakeep F156 Kc178 all0
    have F187 : Exa Z T178.heap u_NUMBER "com/example/oyster/oyster/engine/Tokens$Kind" := F157.keep Kc178
    have F188 : Sta Z T178.heap "com/example/oyster/oyster/engine/Tokens$Kind" "SYMBOL" "Lcom/example/oyster/oyster/engine/Tokens$Kind;" (.ref u_SYMBOL) := own_stakeep F158 Kc178 all0
    have F189 : Exa Z T178.heap u_SYMBOL "com/example/oyster/oyster/engine/Tokens$Kind" := F159.keep Kc178
    have F190 : Fld Z T178.heap u_NUMBER "java/lang/Enum" "ordinal" "I" (.int (0 : Int32)) := F160.keep Kc178 nin0
    have F191 : Fld Z T178.heap u_SYMBOL "java/lang/Enum" "ordinal" "I" (.int (3 : Int32)) := F161.keep Kc178 nin0
    have F192 : Sta Z T178.heap "com/example/oyster/oyster/engine/Tokens$Kind" "NAME" "Lcom/example/oyster/oyster/engine/Tokens$Kind;" (.ref u_NAME) := own_stakeep F162 Kc178 all0
    have F193 : Exa Z T178.heap u_NAME "com/example/oyster/oyster/engine/Tokens$Kind" := F163.keep Kc178
    have F194 : Fld Z T178.heap u_NAME "java/lang/Enum" "ordinal" "I" (.int (2 : Int32)) := F164.keep Kc178 nin0
    have F195 : Sta Z T178.heap "com/example/oyster/oyster/engine/Tokens$Kind" "END" "Lcom/example/oyster/oyster/engine/Tokens$Kind;" (.ref u_END) := own_stakeep F165 Kc178 all0
    have F196 : Exa Z T178.heap u_END "com/example/oyster/oyster/engine/Tokens$Kind" := F166.keep Kc178
    have F197 : Fld Z T178.heap u_END "java/lang/Enum" "ordinal" "I" (.int (4 : Int32)) := F167.keep Kc178 nin0
    have F198 : Sta Z T178.heap "com/example/oyster/oyster/engine/Tokens$Kind" "STRING" "Lcom/example/oyster/oyster/engine/Tokens$Kind;" (.ref u_STRING) := own_stakeep F168 Kc178 all0
    have F199 : Exa Z T178.heap u_STRING "com/example/oyster/oyster/engine/Tokens$Kind" := F169.keep Kc178
    have F200 : Fld Z T178.heap u_STRING "java/lang/Enum" "ordinal" "I" (.int (1 : Int32)) := F170.keep Kc178 nin0
    have F201 : Sta Z T178.heap "java/lang/String" "COMPACT_STRINGS" "Z" (.int cs) := own_stakeep F171 Kc178 all0
    have F202 : Exa Z T178.heap x3_150 "java/lang/String" := G150_0.keep Kc178
    have F203 : Fld Z T178.heap x3_150 "java/lang/String" "value" "[B" (.ref d3_150) := G150_1.keep Kc178 nin0
    have F204 : Fld Z T178.heap x3_150 "java/lang/String" "coder" "B" (.int (0 : Int32)) := G150_2.keep Kc178 nin0
    have F205 : Arv Z T178.heap d3_150 kv3_150 .byte (Int32.ofNat (own_mk zt zc1 zc2 zc3).length) (List.map Value.int (List.map (fun c => c.toInt8.toInt32) (own_mk zt zc1 zc2 zc3))) (.int (0 : Int32)) := G150_3.keep Kc178 nin0
    have N178 := Fr.app N150 N178q
    obtain ⟨b206, g206⟩ : ∃ z, z = T178.heap.size := ⟨_, rfl⟩
    obtain ⟨T206, h206, X206, e206, E206, A206, D206, -, st206⟩ := newO X178 hx hZ hown (hw _ (List.mem_of_getElem? (i := 38) rfl)) (hw _ (List.mem_of_getElem? (i := 39) rfl)) (hw _ (List.mem_of_getElem? (i := 40) rfl)) rfl (g := (mkF m 179 #[.val (.int p0_0), .val (.int p0_1), .val (.int p0_2), .val (.int p0_3), .val (.int (1 : Int32)), .val (.ref u_STRING), .val (.int zt), .val (.int zs), .val (.int zc1), .val (.int zc2), .val (.int zc3), .val (.int zd1), .val (.int zd2), .val (.int zd3), .val (.ref x3_150), .val (.ref x3_178), .unset, .unset] [])) rfl (hb hby at_179) (by decide) (by decide)
    rw [← g206] at A206 D206 st206
    have ne207 : u_NUMBER ≠ b206 := Nat.ne_of_lt (Nat.lt_of_lt_of_le F187.lt (Nat.le_of_eq g206.symm))
    have ne208 : u_SYMBOL ≠ b206 := Nat.ne_of_lt (Nat.lt_of_lt_of_le F189.lt (Nat.le_of_eq g206.symm))
    have ne209 : u_NAME ≠ b206 := Nat.ne_of_lt (Nat.lt_of_lt_of_le F193.lt (Nat.le_of_eq g206.symm))
    have ne210 : u_END ≠ b206 := Nat.ne_of_lt (Nat.lt_of_lt_of_le F196.lt (Nat.le_of_eq g206.symm))
    have ne211 : u_STRING ≠ b206 := Nat.ne_of_lt (Nat.lt_of_lt_of_le F199.lt (Nat.le_of_eq g206.symm))
    have ne212 : x3_150 ≠ b206 := Nat.ne_of_lt (Nat.lt_of_lt_of_le F202.lt (Nat.le_of_eq g206.symm))
    have ne213 : d3_150 ≠ b206 := Nat.ne_of_lt (Nat.lt_of_lt_of_le F205.lt (Nat.le_of_eq g206.symm))
    have ne214 : x3_178 ≠ b206 := Nat.ne_of_lt (Nat.lt_of_lt_of_le G178_0.lt (Nat.le_of_eq g206.symm))
    have ne215 : d3_178 ≠ b206 := Nat.ne_of_lt (Nat.lt_of_lt_of_le G178_3.lt (Nat.le_of_eq g206.symm))
    have sfn206 := Safe.new (Z := Z) (EL := consts_1) (vm := T178.vm) (Nat.le_of_eq g206.symm)
    have sf216 := Safe.ext E206 hCR.1 sfn206
    have hCR := hCR.trans (CHr.ext E206 hCR.1)
    have hk := Nat.le_trans hk E206.1
    have gg206 : n0 ≤ b206 := Nat.le_trans Zs178 (Nat.le_of_eq g206.symm)
    have Zs206 : n0 ≤ h206.size := Nat.le_trans Zs178 E206.1
    have F217 : Sta Z h206 "com/example/oyster/oyster/engine/Tokens$Kind" "NUMBER" "Lcom/example/oyster/oyster/engine/Tokens$Kind;" (.ref u_NUMBER) := F186.ext E206
    have F218 : Exa Z h206 u_NUMBER "com/example/oyster/oyster/engine/Tokens$Kind" := F187.ext E206
    have F219 : Sta Z h206 "com/example/oyster/oyster/engine/Tokens$Kind" "SYMBOL" "Lcom/example/oyster/oyster/engine/Tokens$Kind;" (.ref u_SYMBOL) := F188.ext E206
    have F220 : Exa Z h206 u_SYMBOL "com/example/oyster/oyster/engine/Tokens$Kind" := F189.ext E206
    have F221 : Fld Z h206 u_NUMBER "java/lang/Enum" "ordinal" "I" (.int (0 : Int32)) := F190.ext E206
    have F222 : Fld Z h206 u_SYMBOL "java/lang/Enum" "ordinal" "I" (.int (3 : Int32)) := F191.ext E206
    have F223 : Sta Z h206 "com/example/oyster/oyster/engine/Tokens$Kind" "NAME" "Lcom/example/oyster/oyster/engine/Tokens$Kind;" (.ref u_NAME) := F192.ext E206
    have F224 : Exa Z h206 u_NAME "com/example/oyster/oyster/engine/Tokens$Kind" := F193.ext E206
    have F225 : Fld Z h206 u_NAME "java/lang/Enum" "ordinal" "I" (.int (2 : Int32)) := F194.ext E206
    have F226 : Sta Z h206 "com/example/oyster/oyster/engine/Tokens$Kind" "END" "Lcom/example/oyster/oyster/engine/Tokens$Kind;" (.ref u_END) := F195.ext E206
    have F227 : Exa Z h206 u_END "com/example/oyster/oyster/engine/Tokens$Kind" := F196.ext E206
    have F228 : Fld Z h206 u_END "java/lang/Enum" "ordinal" "I" (.int (4 : Int32)) := F197.ext E206
    have F229 : Sta Z h206 "com/example/oyster/oyster/engine/Tokens$Kind" "STRING" "Lcom/example/oyster/oyster/engine/Tokens$Kind;" (.ref u_STRING) := F198.ext E206
    have F230 : Exa Z h206 u_STRING "com/example/oyster/oyster/engine/Tokens$Kind" := F199.ext E206
    have F231 : Fld Z h206 u_STRING "java/lang/Enum" "ordinal" "I" (.int (1 : Int32)) := F200.ext E206
    have F232 : Sta Z h206 "java/lang/String" "COMPACT_STRINGS" "Z" (.int cs) := F201.ext E206
    have F233 : Exa Z h206 x3_150 "java/lang/String" := F202.ext E206
    have F234 : Fld Z h206 x3_150 "java/lang/String" "value" "[B" (.ref d3_150) := F203.ext E206
    have F235 : Fld Z h206 x3_150 "java/lang/String" "coder" "B" (.int (0 : Int32)) := F204.ext E206
    have F236 : Arv Z h206 d3_150 kv3_150 .byte (Int32.ofNat (own_mk zt zc1 zc2 zc3).length) (List.map Value.int (List.map (fun c => c.toInt8.toInt32) (own_mk zt zc1 zc2 zc3))) (.int (0 : Int32)) := F205.ext E206
    have F237 : Exa Z h206 x3_178 "java/lang/String" := G178_0.ext E206
    have F238 : Fld Z h206 x3_178 "java/lang/String" "value" "[B" (.ref d3_178) := G178_1.ext E206
    have F239 : Fld Z h206 x3_178 "java/lang/String" "coder" "B" (.int (0 : Int32)) := G178_2.ext E206
    have F240 : Arv Z h206 d3_178 kv3_178 .byte (Int32.ofNat (own_mk zs zx1 zx2 zx3).length) (List.map Value.int (List.map (fun c => c.toInt8.toInt32) (own_mk zs zx1 zx2 zx3))) (.int (0 : Int32)) := G178_3.ext E206
    have F241 : Fld Z h206 b206 "com/example/oyster/oyster/engine/Tokens$Token" "kind" "Lcom/example/oyster/oyster/engine/Tokens$Kind;" .null := D206 (Or.inr (hw _ (List.mem_of_getElem? (i := 51) rfl))) (ty := (.object "com/example/oyster/oyster/engine/Tokens$Kind")) (by decide)
    have F242 : Fld Z h206 b206 "com/example/oyster/oyster/engine/Tokens$Token" "text" "Ljava/lang/String;" .null := D206 (Or.inr (hw _ (List.mem_of_getElem? (i := 53) rfl))) (ty := (.object "java/lang/String")) (by decide)
    have F243 : Fld Z h206 b206 "com/example/oyster/oyster/engine/Tokens$Token" "column" "I" (.int (0 : Int32)) := D206 (Or.inr (hw _ (List.mem_of_getElem? (i := 55) rfl))) (ty := .int) (by decide)
    obtain ⟨_, _, ⟨T244, L244, k244, n244⟩, -, X244, ⟨Lc244, hQ244, l244, y244, z244⟩, st244⟩ := X206.specialBack hx (y := (⟨"com/example/oyster/oyster/engine/Tokens$Token", "<init>", "(Lcom/example/oyster/oyster/engine/Tokens$Kind;Ljava/lang/String;I)V"⟩ : MethodName)) rfl hown (mvT hZ (hw _ (List.mem_of_getElem? (i := 41) rfl))) (mvT hZ (hw _ (List.mem_of_getElem? (i := 42) rfl))) (mvT hZ (hw _ (List.mem_of_getElem? (i := 43) rfl))) (by decide) (backOf (W := 1) (rm6 l Z a0 hw [] b206 u_STRING x3_150 p0_3 h206 n0 Zs206 A206 F241 F242 F243 gg206) hZ (hw _ (List.mem_of_getElem? (i := 43) rfl)) (hw _ (List.mem_of_getElem? (i := 40) rfl)) (by decide) (by decide)) (g := (mkF m 188 #[.val (.int p0_0), .val (.int p0_1), .val (.int p0_2), .val (.int p0_3), .val (.int (1 : Int32)), .val (.ref u_STRING), .val (.int zt), .val (.int zs), .val (.int zc1), .val (.int zc2), .val (.int zc3), .val (.int zd1), .val (.int zd2), .val (.int zd3), .val (.ref x3_150), .val (.ref x3_178), .unset, .unset] [(.int p0_3), (.ref x3_150), (.ref u_STRING), (.ref b206), (.ref b206)])) rfl (by rw [hml]; rfl) (Steps.refl _) (a := b206) (argsL := [(.ref u_STRING), (.ref x3_150), (.int p0_3)]) (rest := [(.ref b206)]) (lenOf pd_5 rfl) rfl (by show 2 * 0 + _ ≤ _; exact Nat.le_of_eq rfl) (hb hby at_188) (fun _ _ => ⟨rfl, e206, (by decide : 13 + 0 ≤ _), (by decide : 27 + 0 ≤ _)⟩)
    dsimp only [Pt.U, Pt.locs, Pt.cells, Pt.slots] at X244 l244 y244 z244 st244 hQ244
    subst l244 y244 z244
    obtain ⟨rfl, N244q, Kc244, G244_0, G244_1, G244_2⟩ := hQ244
    have Zs244 : n0 ≤ T244.heap.size := Nat.le_trans Zs206 Kc244.1
    have sf245 := Safe.keep Kc244 (sfS (Safe.exa hZ.alike A206 (by decide) (by decide)) sf0) hCR.1 sf216
    have hCR := hCR.trans (CHr.keep Kc244 (sfS (Safe.exa hZ.alike A206 (by decide) (by decide)) sf0) hCR.1)
    have hk := Nat.le_trans hk Kc244.1
    have F246 : Sta Z T244.heap "com/example/oyster/oyster/engine/Tokens$Kind" "NUMBER" "Lcom/example/oyster/oyster/engine/Tokens$Kind;" (.ref u_NUMBER) := own_stakeep F217 Kc244 (allS (own_nsE A206) all0)
    have F247 : Exa Z T244.heap u_NUMBER "com/example/oyster/oyster/engine/Tokens$Kind" := F218.keep Kc244
    have F248 : Sta Z T244.heap "com/example/oyster/oyster/engine/Tokens$Kind" "SYMBOL" "Lcom/example/oyster/oyster/engine/Tokens$Kind;" (.ref u_SYMBOL) := own_stakeep F219 Kc244 (allS (own_nsE A206) all0)
    have F249 : Exa Z T244.heap u_SYMBOL "com/example/oyster/oyster/engine/Tokens$Kind" := F220.keep Kc244
    have F250 : Fld Z T244.heap u_NUMBER "java/lang/Enum" "ordinal" "I" (.int (0 : Int32)) := F221.keep Kc244 (ninS ne207 nin0)
    have F251 : Fld Z T244.heap u_SYMBOL "java/lang/Enum" "ordinal" "I" (.int (3 : Int32)) := F222.keep Kc244 (ninS ne208 nin0)
    have F252 : Sta Z T244.heap "com/example/oyster/oyster/engine/Tokens$Kind" "NAME" "Lcom/example/oyster/oyster/engine/Tokens$Kind;" (.ref u_NAME) := own_stakeep F223 Kc244 (allS (own_nsE A206) all0)
    have F253 : Exa Z T244.heap u_NAME "com/example/oyster/oyster/engine/Tokens$Kind" := F224.keep Kc244
    have F254 : Fld Z T244.heap u_NAME "java/lang/Enum" "ordinal" "I" (.int (2 : Int32)) := F225.keep Kc244 (ninS ne209 nin0)
    have F255 : Sta Z T244.heap "com/example/oyster/oyster/engine/Tokens$Kind" "END" "Lcom/example/oyster/oyster/engine/Tokens$Kind;" (.ref u_END) := own_stakeep F226 Kc244 (allS (own_nsE A206) all0)
    have F256 : Exa Z T244.heap u_END "com/example/oyster/oyster/engine/Tokens$Kind" := F227.keep Kc244
    have F257 : Fld Z T244.heap u_END "java/lang/Enum" "ordinal" "I" (.int (4 : Int32)) := F228.keep Kc244 (ninS ne210 nin0)
    have F258 : Sta Z T244.heap "com/example/oyster/oyster/engine/Tokens$Kind" "STRING" "Lcom/example/oyster/oyster/engine/Tokens$Kind;" (.ref u_STRING) := own_stakeep F229 Kc244 (allS (own_nsE A206) all0)
    have F259 : Exa Z T244.heap u_STRING "com/example/oyster/oyster/engine/Tokens$Kind" := F230.keep Kc244
    have F260 : Fld Z T244.heap u_STRING "java/lang/Enum" "ordinal" "I" (.int (1 : Int32)) := F231.keep Kc244 (ninS ne211 nin0)
    have F261 : Sta Z T244.heap "java/lang/String" "COMPACT_STRINGS" "Z" (.int cs) := own_stakeep F232 Kc244 (allS (own_nsE A206) all0)
    have F262 : Exa Z T244.heap x3_150 "java/lang/String" := F233.keep Kc244
    have F263 : Fld Z T244.heap x3_150 "java/lang/String" "value" "[B" (.ref d3_150) := F234.keep Kc244 (ninS ne212 nin0)
    have F264 : Fld Z T244.heap x3_150 "java/lang/String" "coder" "B" (.int (0 : Int32)) := F235.keep Kc244 (ninS ne212 nin0)
    have F265 : Arv Z T244.heap d3_150 kv3_150 .byte (Int32.ofNat (own_mk zt zc1 zc2 zc3).length) (List.map Value.int (List.map (fun c => c.toInt8.toInt32) (own_mk zt zc1 zc2 zc3))) (.int (0 : Int32)) := F236.keep Kc244 (ninS ne213 nin0)
    have F266 : Exa Z T244.heap x3_178 "java/lang/String" := F237.keep Kc244
    have F267 : Fld Z T244.heap x3_178 "java/lang/String" "value" "[B" (.ref d3_178) := F238.keep Kc244 (ninS ne214 nin0)
    have F268 : Fld Z T244.heap x3_178 "java/lang/String" "coder" "B" (.int (0 : Int32)) := F239.keep Kc244 (ninS ne214 nin0)
    have F269 : Arv Z T244.heap d3_178 kv3_178 .byte (Int32.ofNat (own_mk zs zx1 zx2 zx3).length) (List.map Value.int (List.map (fun c => c.toInt8.toInt32) (own_mk zs zx1 zx2 zx3))) (.int (0 : Int32)) := F240.keep Kc244 (ninS ne215 nin0)
    have N244 := Fr.app N178 N244q
    obtain ⟨cq271, kq271, q271a, q271b, q271c⟩ := isOf hZ rfl G244_0
    obtain ⟨_, _, ⟨T271, L271, k271, n271⟩, -, X271, ⟨Lc271, hQ271, l271, y271, z271⟩, st271⟩ := X244.virtualBack hx (y := (⟨"com/example/oyster/oyster/engine/Tokens$Token", "isSymbol", "(Ljava/lang/String;)Z"⟩ : MethodName)) (z := (⟨"com/example/oyster/oyster/engine/Tokens$Token", "isSymbol", "(Ljava/lang/String;)Z"⟩ : MethodName)) hown (mvT hZ (hw _ (List.mem_of_getElem? (i := 56) rfl))) (mvT hZ (hw _ (List.mem_of_getElem? (i := 57) rfl))) (notFace_of_selects (args := #[]) (mvT hZ (hw _ (List.mem_of_getElem? (i := 59) rfl)))) (mvT hZ (hw _ (List.mem_of_getElem? (i := 59) rfl))) (mvT hZ (hw _ (List.mem_of_getElem? (i := 58) rfl))) (by decide) (backOf (W := 0) (rm7 l Z a0 hw [] b206 x3_178 u_SYMBOL u_STRING T244.heap n0 Zs244 G244_1 F248 ne_STRING) hZ (hw _ (List.mem_of_getElem? (i := 60) rfl)) (hw _ (List.mem_of_getElem? (i := 40) rfl)) (by decide) (by decide)) q271a q271c (g := (mkF m 250 #[.val (.int p0_0), .val (.int p0_1), .val (.int p0_2), .val (.int p0_3), .val (.int (1 : Int32)), .val (.ref u_STRING), .val (.int zt), .val (.int zs), .val (.int zc1), .val (.int zc2), .val (.int zc3), .val (.int zd1), .val (.int zd2), .val (.int zd3), .val (.ref x3_150), .val (.ref x3_178), .val (.ref b206), .val (.int (0 : Int32))] [(.ref x3_178), (.ref b206)])) rfl (by rw [hml]; rfl) (Steps.refl _) (argsL := [(.ref x3_178)]) (rest := []) (lenOf pd_6 rfl) rfl (by show 2 * 0 + _ ≤ _; exact Nat.le_of_eq rfl) (hb hby at_250) (fun _ _ => ⟨rfl, rfl, (by decide : 13 + 0 ≤ _), (by decide : 27 + 0 ≤ _)⟩)
    dsimp only [Pt.U, Pt.locs, Pt.cells, Pt.slots] at X271 l271 y271 z271 st271 hQ271
    subst l271 y271 z271
    obtain ⟨rfl, N271q, eh271⟩ := hQ271
    have N271 := Fr.app N244 N271q
    have k272 : ∀ t, Steps p.tables e below (T271.setTop (mkF m 263 #[.val (.int p0_0), .val (.int p0_1), .val (.int p0_2), .val (.int p0_3), .val (.int (1 : Int32)), .val (.ref u_STRING), .val (.int zt), .val (.int zs), .val (.int zc1), .val (.int zc2), .val (.int zc3), .val (.int zd1), .val (.int zd2), .val (.int zd3), .val (.ref x3_150), .val (.ref x3_178), .val (.ref b206), .val (.int (0 : Int32))] [(.int (1 : Int32))])) t → Steps p.tables e below (s₁.setTop (entryFrame m #[(.int p0_0), (.int p0_1), (.int p0_2), (.int p0_3)] maxLocals)) t := by
      intro t k
      refine k177 t ?_
      show Steps p.tables e below (T150.setTop (mkF m 174 #[.val (.int p0_0), .val (.int p0_1), .val (.int p0_2), .val (.int p0_3), .val (.int (1 : Int32)), .val (.ref u_STRING), .val (.int zt), .val (.int zs), .val (.int zc1), .val (.int zc2), .val (.int zc3), .val (.int zd1), .val (.int zd2), .val (.int zd3), .val (.ref x3_150), .unset, .unset, .unset] [(.int zx3), (.int zx2), (.int zx1), (.int zs)])) _
      refine st178.trans ?_
      show Steps p.tables e below (T178.setTop (mkF m 177 #[.val (.int p0_0), .val (.int p0_1), .val (.int p0_2), .val (.int p0_3), .val (.int (1 : Int32)), .val (.ref u_STRING), .val (.int zt), .val (.int zs), .val (.int zc1), .val (.int zc2), .val (.int zc3), .val (.int zd1), .val (.int zd2), .val (.int zd3), .val (.ref x3_150), .unset, .unset, .unset] [(.ref x3_178)])) _
      refine XS.astore X178.here hx rfl (hb hby at_177) rfl rfl (l' := #[.val (.int p0_0), .val (.int p0_1), .val (.int p0_2), .val (.int p0_3), .val (.int (1 : Int32)), .val (.ref u_STRING), .val (.int zt), .val (.int zs), .val (.int zc1), .val (.int zc2), .val (.int zc3), .val (.int zd1), .val (.int zd2), .val (.int zd3), .val (.ref x3_150), .val (.ref x3_178), .unset, .unset]) rfl ?_
      show Steps p.tables e below (T178.setTop (mkF m 179 #[.val (.int p0_0), .val (.int p0_1), .val (.int p0_2), .val (.int p0_3), .val (.int (1 : Int32)), .val (.ref u_STRING), .val (.int zt), .val (.int zs), .val (.int zc1), .val (.int zc2), .val (.int zc3), .val (.int zd1), .val (.int zd2), .val (.int zd3), .val (.ref x3_150), .val (.ref x3_178), .unset, .unset] [])) _
      refine st206 _ ?_
      show Steps p.tables e below (T206.setTop (mkF m 182 #[.val (.int p0_0), .val (.int p0_1), .val (.int p0_2), .val (.int p0_3), .val (.int (1 : Int32)), .val (.ref u_STRING), .val (.int zt), .val (.int zs), .val (.int zc1), .val (.int zc2), .val (.int zc3), .val (.int zd1), .val (.int zd2), .val (.int zd3), .val (.ref x3_150), .val (.ref x3_178), .unset, .unset] [(.ref b206)])) _
      refine XS.dup X206.here hx rfl (hb hby at_182) rfl rfl ?_
      show Steps p.tables e below (T206.setTop (mkF m 183 #[.val (.int p0_0), .val (.int p0_1), .val (.int p0_2), .val (.int p0_3), .val (.int (1 : Int32)), .val (.ref u_STRING), .val (.int zt), .val (.int zs), .val (.int zc1), .val (.int zc2), .val (.int zc3), .val (.int zd1), .val (.int zd2), .val (.int zd3), .val (.ref x3_150), .val (.ref x3_178), .unset, .unset] [(.ref b206), (.ref b206)])) _
      refine XS.aload X206.here hx rfl (hb hby at_183) rfl rfl ?_
      show Steps p.tables e below (T206.setTop (mkF m 185 #[.val (.int p0_0), .val (.int p0_1), .val (.int p0_2), .val (.int p0_3), .val (.int (1 : Int32)), .val (.ref u_STRING), .val (.int zt), .val (.int zs), .val (.int zc1), .val (.int zc2), .val (.int zc3), .val (.int zd1), .val (.int zd2), .val (.int zd3), .val (.ref x3_150), .val (.ref x3_178), .unset, .unset] [(.ref u_STRING), (.ref b206), (.ref b206)])) _
      refine XS.aload X206.here hx rfl (hb hby at_185) rfl rfl ?_
      show Steps p.tables e below (T206.setTop (mkF m 187 #[.val (.int p0_0), .val (.int p0_1), .val (.int p0_2), .val (.int p0_3), .val (.int (1 : Int32)), .val (.ref u_STRING), .val (.int zt), .val (.int zs), .val (.int zc1), .val (.int zc2), .val (.int zc3), .val (.int zd1), .val (.int zd2), .val (.int zd3), .val (.ref x3_150), .val (.ref x3_178), .unset, .unset] [(.ref x3_150), (.ref u_STRING), (.ref b206), (.ref b206)])) _
      refine XS.iloadN X206.here hx rfl (hb hby at_187) rfl ?_
      show Steps p.tables e below (T206.setTop (mkF m 188 #[.val (.int p0_0), .val (.int p0_1), .val (.int p0_2), .val (.int p0_3), .val (.int (1 : Int32)), .val (.ref u_STRING), .val (.int zt), .val (.int zs), .val (.int zc1), .val (.int zc2), .val (.int zc3), .val (.int zd1), .val (.int zd2), .val (.int zd3), .val (.ref x3_150), .val (.ref x3_178), .unset, .unset] [(.int p0_3), (.ref x3_150), (.ref u_STRING), (.ref b206), (.ref b206)])) _
      refine st244.trans ?_
      show Steps p.tables e below (T244.setTop (mkF m 191 #[.val (.int p0_0), .val (.int p0_1), .val (.int p0_2), .val (.int p0_3), .val (.int (1 : Int32)), .val (.ref u_STRING), .val (.int zt), .val (.int zs), .val (.int zc1), .val (.int zc2), .val (.int zc3), .val (.int zd1), .val (.int zd2), .val (.int zd3), .val (.ref x3_150), .val (.ref x3_178), .unset, .unset] [(.ref b206)])) _
      refine XS.astore X244.here hx rfl (hb hby at_191) rfl rfl (l' := #[.val (.int p0_0), .val (.int p0_1), .val (.int p0_2), .val (.int p0_3), .val (.int (1 : Int32)), .val (.ref u_STRING), .val (.int zt), .val (.int zs), .val (.int zc1), .val (.int zc2), .val (.int zc3), .val (.int zd1), .val (.int zd2), .val (.int zd3), .val (.ref x3_150), .val (.ref x3_178), .val (.ref b206), .unset]) rfl ?_
      show Steps p.tables e below (T244.setTop (mkF m 193 #[.val (.int p0_0), .val (.int p0_1), .val (.int p0_2), .val (.int p0_3), .val (.int (1 : Int32)), .val (.ref u_STRING), .val (.int zt), .val (.int zs), .val (.int zc1), .val (.int zc2), .val (.int zc3), .val (.int zd1), .val (.int zd2), .val (.int zd3), .val (.ref x3_150), .val (.ref x3_178), .val (.ref b206), .unset] [])) _
      refine XS.iload X244.here hx rfl (hb hby at_193) rfl ?_
      show Steps p.tables e below (T244.setTop (mkF m 195 #[.val (.int p0_0), .val (.int p0_1), .val (.int p0_2), .val (.int p0_3), .val (.int (1 : Int32)), .val (.ref u_STRING), .val (.int zt), .val (.int zs), .val (.int zc1), .val (.int zc2), .val (.int zc3), .val (.int zd1), .val (.int zd2), .val (.int zd3), .val (.ref x3_150), .val (.ref x3_178), .val (.ref b206), .unset] [(.int (1 : Int32))])) _
      refine XS.iconst X244.here hx rfl (hb hby at_195) ?_
      show Steps p.tables e below (T244.setTop (mkF m 196 #[.val (.int p0_0), .val (.int p0_1), .val (.int p0_2), .val (.int p0_3), .val (.int (1 : Int32)), .val (.ref u_STRING), .val (.int zt), .val (.int zs), .val (.int zc1), .val (.int zc2), .val (.int zc3), .val (.int zd1), .val (.int zd2), .val (.int zd3), .val (.ref x3_150), .val (.ref x3_178), .val (.ref b206), .unset] [(.int (3 : Int32)), (.int (1 : Int32))])) _
      refine XS.icmpYes X244.here hx rfl (pc0 := 196) (pc' := 243) rfl (hb hby at_196) rfl (feq (by decide : ¬ ((1 : Int32) = (3 : Int32)))).2 (by decide) (by decide) ?_
      show Steps p.tables e below (T244.setTop (mkF m 243 #[.val (.int p0_0), .val (.int p0_1), .val (.int p0_2), .val (.int p0_3), .val (.int (1 : Int32)), .val (.ref u_STRING), .val (.int zt), .val (.int zs), .val (.int zc1), .val (.int zc2), .val (.int zc3), .val (.int zd1), .val (.int zd2), .val (.int zd3), .val (.ref x3_150), .val (.ref x3_178), .val (.ref b206), .unset] [])) _
      refine XS.iconst X244.here hx rfl (hb hby at_243) ?_
      show Steps p.tables e below (T244.setTop (mkF m 244 #[.val (.int p0_0), .val (.int p0_1), .val (.int p0_2), .val (.int p0_3), .val (.int (1 : Int32)), .val (.ref u_STRING), .val (.int zt), .val (.int zs), .val (.int zc1), .val (.int zc2), .val (.int zc3), .val (.int zd1), .val (.int zd2), .val (.int zd3), .val (.ref x3_150), .val (.ref x3_178), .val (.ref b206), .unset] [(.int (0 : Int32))])) _
      refine XS.istore X244.here hx rfl (hb hby at_244) rfl (l' := #[.val (.int p0_0), .val (.int p0_1), .val (.int p0_2), .val (.int p0_3), .val (.int (1 : Int32)), .val (.ref u_STRING), .val (.int zt), .val (.int zs), .val (.int zc1), .val (.int zc2), .val (.int zc3), .val (.int zd1), .val (.int zd2), .val (.int zd3), .val (.ref x3_150), .val (.ref x3_178), .val (.ref b206), .val (.int (0 : Int32))]) rfl ?_
      show Steps p.tables e below (T244.setTop (mkF m 246 #[.val (.int p0_0), .val (.int p0_1), .val (.int p0_2), .val (.int p0_3), .val (.int (1 : Int32)), .val (.ref u_STRING), .val (.int zt), .val (.int zs), .val (.int zc1), .val (.int zc2), .val (.int zc3), .val (.int zd1), .val (.int zd2), .val (.int zd3), .val (.ref x3_150), .val (.ref x3_178), .val (.ref b206), .val (.int (0 : Int32))] [])) _
      refine XS.aload X244.here hx rfl (hb hby at_246) rfl rfl ?_
      show Steps p.tables e below (T244.setTop (mkF m 248 #[.val (.int p0_0), .val (.int p0_1), .val (.int p0_2), .val (.int p0_3), .val (.int (1 : Int32)), .val (.ref u_STRING), .val (.int zt), .val (.int zs), .val (.int zc1), .val (.int zc2), .val (.int zc3), .val (.int zd1), .val (.int zd2), .val (.int zd3), .val (.ref x3_150), .val (.ref x3_178), .val (.ref b206), .val (.int (0 : Int32))] [(.ref b206)])) _
      refine XS.aload X244.here hx rfl (hb hby at_248) rfl rfl ?_
      show Steps p.tables e below (T244.setTop (mkF m 250 #[.val (.int p0_0), .val (.int p0_1), .val (.int p0_2), .val (.int p0_3), .val (.int (1 : Int32)), .val (.ref u_STRING), .val (.int zt), .val (.int zs), .val (.int zc1), .val (.int zc2), .val (.int zc3), .val (.int zd1), .val (.int zd2), .val (.int zd3), .val (.ref x3_150), .val (.ref x3_178), .val (.ref b206), .val (.int (0 : Int32))] [(.ref x3_178), (.ref b206)])) _
      refine st271.trans ?_
      show Steps p.tables e below (T271.setTop (mkF m 253 #[.val (.int p0_0), .val (.int p0_1), .val (.int p0_2), .val (.int p0_3), .val (.int (1 : Int32)), .val (.ref u_STRING), .val (.int zt), .val (.int zs), .val (.int zc1), .val (.int zc2), .val (.int zc3), .val (.int zd1), .val (.int zd2), .val (.int zd3), .val (.ref x3_150), .val (.ref x3_178), .val (.ref b206), .val (.int (0 : Int32))] [(.int (0 : Int32))])) _
      refine XS.iload X271.here hx rfl (hb hby at_253) rfl ?_
      show Steps p.tables e below (T271.setTop (mkF m 255 #[.val (.int p0_0), .val (.int p0_1), .val (.int p0_2), .val (.int p0_3), .val (.int (1 : Int32)), .val (.ref u_STRING), .val (.int zt), .val (.int zs), .val (.int zc1), .val (.int zc2), .val (.int zc3), .val (.int zd1), .val (.int zd2), .val (.int zd3), .val (.ref x3_150), .val (.ref x3_178), .val (.ref b206), .val (.int (0 : Int32))] [(.int (0 : Int32)), (.int (0 : Int32))])) _
      refine XS.icmpNo X271.here hx rfl (hb hby at_255) rfl (teq (by decide : (0 : Int32) = (0 : Int32))).2 ?_
      show Steps p.tables e below (T271.setTop (mkF m 258 #[.val (.int p0_0), .val (.int p0_1), .val (.int p0_2), .val (.int p0_3), .val (.int (1 : Int32)), .val (.ref u_STRING), .val (.int zt), .val (.int zs), .val (.int zc1), .val (.int zc2), .val (.int zc3), .val (.int zd1), .val (.int zd2), .val (.int zd3), .val (.ref x3_150), .val (.ref x3_178), .val (.ref b206), .val (.int (0 : Int32))] [])) _
      refine XS.iconst X271.here hx rfl (hb hby at_258) ?_
      show Steps p.tables e below (T271.setTop (mkF m 259 #[.val (.int p0_0), .val (.int p0_1), .val (.int p0_2), .val (.int p0_3), .val (.int (1 : Int32)), .val (.ref u_STRING), .val (.int zt), .val (.int zs), .val (.int zc1), .val (.int zc2), .val (.int zc3), .val (.int zd1), .val (.int zd2), .val (.int zd3), .val (.ref x3_150), .val (.ref x3_178), .val (.ref b206), .val (.int (0 : Int32))] [(.int (1 : Int32))])) _
      refine XS.goto X271.here hx rfl (pc0 := 259) (pc' := 263) rfl (hb hby at_259) (by decide) (by decide) ?_
      exact k
    obtain ⟨fs, hr, hrun, hended, hE1, hE2, hE3, hE4⟩ := X271.leaveW hS (by rw [eh271]; exact hk) (v := some (.int (1 : Int32))) (fun h => by rw [Bd.returns] at h; cases h)
    have hCE := hCR.trans (CHv.at X271 hZ hEL hCR.1)
    refine ⟨_, _, k272 _ ?_, hrun, hended, _, _, rfl, ?_, (by show CHr Z consts_1 s.vm s.heap T271.vm T271.heap; rw [hh, eh271]; exact hCE), ⟨_, rfl⟩, hE2, hE3, hE4.mono (by decide) (by decide)⟩
    · exact retN X271 hx (t := .boolean) Bd.returns (by simp) (hb hby at_263) hr
    · show Q0 Z p0_0 p0_1 p0_2 p0_3 u_NUMBER u_SYMBOL u_NAME u_END u_STRING cs h0 n0 _ T271.heap _
      rw [eh271]
      exact ⟨rfl, N271⟩
  · skip
    obtain ⟨T273, X273, e273, st273⟩ := getS2 X0 hx hZ hown (host := "") (Or.inl (hw _ (List.mem_of_getElem? (i := 63) rfl))) Via.refl e0 S_NAME (g := (mkF m 41 #[.val (.int p0_0), .val (.int p0_1), .val (.int p0_2), .val (.int p0_3), .val (.int (2 : Int32)), .unset, .unset, .unset, .unset, .unset, .unset, .unset, .unset, .unset, .unset, .unset, .unset, .unset] [])) rfl (hb hby at_41)
    have k274 : ∀ t, Steps p.tables e below (T273.setTop (mkF m 71 #[.val (.int p0_0), .val (.int p0_1), .val (.int p0_2), .val (.int p0_3), .val (.int (2 : Int32)), .val (.ref u_NAME), .unset, .unset, .unset, .unset, .unset, .unset, .unset, .unset, .unset, .unset, .unset, .unset] [(.int (p0_1 &&& (3 : Int32)))])) t → Steps p.tables e below (s₁.setTop (entryFrame m #[(.int p0_0), (.int p0_1), (.int p0_2), (.int p0_3)] maxLocals)) t := by
      intro t k
      refine k1 t ?_
      show Steps p.tables e below (s₁.setTop (mkF m 8 #[.val (.int p0_0), .val (.int p0_1), .val (.int p0_2), .val (.int p0_3), .val (.int (2 : Int32)), .unset, .unset, .unset, .unset, .unset, .unset, .unset, .unset, .unset, .unset, .unset, .unset, .unset] [])) _
      refine XS.iload X0.here hx rfl (hb hby at_8) rfl ?_
      show Steps p.tables e below (s₁.setTop (mkF m 10 #[.val (.int p0_0), .val (.int p0_1), .val (.int p0_2), .val (.int p0_3), .val (.int (2 : Int32)), .unset, .unset, .unset, .unset, .unset, .unset, .unset, .unset, .unset, .unset, .unset, .unset, .unset] [(.int (2 : Int32))])) _
      refine XS.ifYes X0.here hx rfl (pc0 := 10) (pc' := 21) rfl (hb hby at_10) rfl ((if0 _ _).trans (feq (by decide : ¬ ((2 : Int32) = (0 : Int32)))).2) (by decide) (by decide) ?_
      show Steps p.tables e below (s₁.setTop (mkF m 21 #[.val (.int p0_0), .val (.int p0_1), .val (.int p0_2), .val (.int p0_3), .val (.int (2 : Int32)), .unset, .unset, .unset, .unset, .unset, .unset, .unset, .unset, .unset, .unset, .unset, .unset, .unset] [])) _
      refine XS.iload X0.here hx rfl (hb hby at_21) rfl ?_
      show Steps p.tables e below (s₁.setTop (mkF m 23 #[.val (.int p0_0), .val (.int p0_1), .val (.int p0_2), .val (.int p0_3), .val (.int (2 : Int32)), .unset, .unset, .unset, .unset, .unset, .unset, .unset, .unset, .unset, .unset, .unset, .unset, .unset] [(.int (2 : Int32))])) _
      refine XS.iconst X0.here hx rfl (hb hby at_23) ?_
      show Steps p.tables e below (s₁.setTop (mkF m 24 #[.val (.int p0_0), .val (.int p0_1), .val (.int p0_2), .val (.int p0_3), .val (.int (2 : Int32)), .unset, .unset, .unset, .unset, .unset, .unset, .unset, .unset, .unset, .unset, .unset, .unset, .unset] [(.int (1 : Int32)), (.int (2 : Int32))])) _
      refine XS.icmpYes X0.here hx rfl (pc0 := 24) (pc' := 35) rfl (hb hby at_24) rfl (feq (by decide : ¬ ((2 : Int32) = (1 : Int32)))).2 (by decide) (by decide) ?_
      show Steps p.tables e below (s₁.setTop (mkF m 35 #[.val (.int p0_0), .val (.int p0_1), .val (.int p0_2), .val (.int p0_3), .val (.int (2 : Int32)), .unset, .unset, .unset, .unset, .unset, .unset, .unset, .unset, .unset, .unset, .unset, .unset, .unset] [])) _
      refine XS.iload X0.here hx rfl (hb hby at_35) rfl ?_
      show Steps p.tables e below (s₁.setTop (mkF m 37 #[.val (.int p0_0), .val (.int p0_1), .val (.int p0_2), .val (.int p0_3), .val (.int (2 : Int32)), .unset, .unset, .unset, .unset, .unset, .unset, .unset, .unset, .unset, .unset, .unset, .unset, .unset] [(.int (2 : Int32))])) _
      refine XS.iconst X0.here hx rfl (hb hby at_37) ?_
      show Steps p.tables e below (s₁.setTop (mkF m 38 #[.val (.int p0_0), .val (.int p0_1), .val (.int p0_2), .val (.int p0_3), .val (.int (2 : Int32)), .unset, .unset, .unset, .unset, .unset, .unset, .unset, .unset, .unset, .unset, .unset, .unset, .unset] [(.int (2 : Int32)), (.int (2 : Int32))])) _
      refine XS.icmpNo X0.here hx rfl (hb hby at_38) rfl (teq (by decide : (2 : Int32) = (2 : Int32))).2 ?_
      show Steps p.tables e below (s₁.setTop (mkF m 41 #[.val (.int p0_0), .val (.int p0_1), .val (.int p0_2), .val (.int p0_3), .val (.int (2 : Int32)), .unset, .unset, .unset, .unset, .unset, .unset, .unset, .unset, .unset, .unset, .unset, .unset, .unset] [])) _
      refine st273 _ ?_
      show Steps p.tables e below (T273.setTop (mkF m 44 #[.val (.int p0_0), .val (.int p0_1), .val (.int p0_2), .val (.int p0_3), .val (.int (2 : Int32)), .unset, .unset, .unset, .unset, .unset, .unset, .unset, .unset, .unset, .unset, .unset, .unset, .unset] [(.ref u_NAME)])) _
      refine XS.astore X273.here hx rfl (hb hby at_44) rfl rfl (l' := #[.val (.int p0_0), .val (.int p0_1), .val (.int p0_2), .val (.int p0_3), .val (.int (2 : Int32)), .val (.ref u_NAME), .unset, .unset, .unset, .unset, .unset, .unset, .unset, .unset, .unset, .unset, .unset, .unset]) rfl ?_
      show Steps p.tables e below (T273.setTop (mkF m 46 #[.val (.int p0_0), .val (.int p0_1), .val (.int p0_2), .val (.int p0_3), .val (.int (2 : Int32)), .val (.ref u_NAME), .unset, .unset, .unset, .unset, .unset, .unset, .unset, .unset, .unset, .unset, .unset, .unset] [])) _
      refine XS.goto X273.here hx rfl (pc0 := 46) (pc' := 68) rfl (hb hby at_46) (by decide) (by decide) ?_
      show Steps p.tables e below (T273.setTop (mkF m 68 #[.val (.int p0_0), .val (.int p0_1), .val (.int p0_2), .val (.int p0_3), .val (.int (2 : Int32)), .val (.ref u_NAME), .unset, .unset, .unset, .unset, .unset, .unset, .unset, .unset, .unset, .unset, .unset, .unset] [])) _
      refine XS.iloadN X273.here hx rfl (hb hby at_68) rfl ?_
      show Steps p.tables e below (T273.setTop (mkF m 69 #[.val (.int p0_0), .val (.int p0_1), .val (.int p0_2), .val (.int p0_3), .val (.int (2 : Int32)), .val (.ref u_NAME), .unset, .unset, .unset, .unset, .unset, .unset, .unset, .unset, .unset, .unset, .unset, .unset] [(.int p0_1)])) _
      refine XS.iconst X273.here hx rfl (hb hby at_69) ?_
      show Steps p.tables e below (T273.setTop (mkF m 70 #[.val (.int p0_0), .val (.int p0_1), .val (.int p0_2), .val (.int p0_3), .val (.int (2 : Int32)), .val (.ref u_NAME), .unset, .unset, .unset, .unset, .unset, .unset, .unset, .unset, .unset, .unset, .unset, .unset] [(.int (3 : Int32)), (.int p0_1)])) _
      refine XS.iand X273.here hx rfl (hb hby at_70) rfl ?_
      exact k
    obtain ⟨zt, hzt⟩ : ∃ z, z = (p0_1 &&& (3 : Int32)) := ⟨_, rfl⟩
    rw [← hzt] at k274
    have k275 : ∀ t, Steps p.tables e below (T273.setTop (mkF m 76 #[.val (.int p0_0), .val (.int p0_1), .val (.int p0_2), .val (.int p0_3), .val (.int (2 : Int32)), .val (.ref u_NAME), .val (.int zt), .unset, .unset, .unset, .unset, .unset, .unset, .unset, .unset, .unset, .unset, .unset] [(.int (p0_2 &&& (3 : Int32)))])) t → Steps p.tables e below (s₁.setTop (entryFrame m #[(.int p0_0), (.int p0_1), (.int p0_2), (.int p0_3)] maxLocals)) t := by
      intro t k
      refine k274 t ?_
      show Steps p.tables e below (T273.setTop (mkF m 71 #[.val (.int p0_0), .val (.int p0_1), .val (.int p0_2), .val (.int p0_3), .val (.int (2 : Int32)), .val (.ref u_NAME), .unset, .unset, .unset, .unset, .unset, .unset, .unset, .unset, .unset, .unset, .unset, .unset] [(.int zt)])) _
      refine XS.istore X273.here hx rfl (hb hby at_71) rfl (l' := #[.val (.int p0_0), .val (.int p0_1), .val (.int p0_2), .val (.int p0_3), .val (.int (2 : Int32)), .val (.ref u_NAME), .val (.int zt), .unset, .unset, .unset, .unset, .unset, .unset, .unset, .unset, .unset, .unset, .unset]) rfl ?_
      show Steps p.tables e below (T273.setTop (mkF m 73 #[.val (.int p0_0), .val (.int p0_1), .val (.int p0_2), .val (.int p0_3), .val (.int (2 : Int32)), .val (.ref u_NAME), .val (.int zt), .unset, .unset, .unset, .unset, .unset, .unset, .unset, .unset, .unset, .unset, .unset] [])) _
      refine XS.iloadN X273.here hx rfl (hb hby at_73) rfl ?_
      show Steps p.tables e below (T273.setTop (mkF m 74 #[.val (.int p0_0), .val (.int p0_1), .val (.int p0_2), .val (.int p0_3), .val (.int (2 : Int32)), .val (.ref u_NAME), .val (.int zt), .unset, .unset, .unset, .unset, .unset, .unset, .unset, .unset, .unset, .unset, .unset] [(.int p0_2)])) _
      refine XS.iconst X273.here hx rfl (hb hby at_74) ?_
      show Steps p.tables e below (T273.setTop (mkF m 75 #[.val (.int p0_0), .val (.int p0_1), .val (.int p0_2), .val (.int p0_3), .val (.int (2 : Int32)), .val (.ref u_NAME), .val (.int zt), .unset, .unset, .unset, .unset, .unset, .unset, .unset, .unset, .unset, .unset, .unset] [(.int (3 : Int32)), (.int p0_2)])) _
      refine XS.iand X273.here hx rfl (hb hby at_75) rfl ?_
      exact k
    obtain ⟨zs, hzs⟩ : ∃ z, z = (p0_2 &&& (3 : Int32)) := ⟨_, rfl⟩
    rw [← hzs] at k275
    have k276 : ∀ t, Steps p.tables e below (T273.setTop (mkF m 86 #[.val (.int p0_0), .val (.int p0_1), .val (.int p0_2), .val (.int p0_3), .val (.int (2 : Int32)), .val (.ref u_NAME), .val (.int zt), .val (.int zs), .unset, .unset, .unset, .unset, .unset, .unset, .unset, .unset, .unset, .unset] [(.int (((p0_1.toUInt32 >>> ((8 : Int32) &&& 31).toUInt32).toInt32) &&& (255 : Int32)))])) t → Steps p.tables e below (s₁.setTop (entryFrame m #[(.int p0_0), (.int p0_1), (.int p0_2), (.int p0_3)] maxLocals)) t := by
      intro t k
      refine k275 t ?_
      show Steps p.tables e below (T273.setTop (mkF m 76 #[.val (.int p0_0), .val (.int p0_1), .val (.int p0_2), .val (.int p0_3), .val (.int (2 : Int32)), .val (.ref u_NAME), .val (.int zt), .unset, .unset, .unset, .unset, .unset, .unset, .unset, .unset, .unset, .unset, .unset] [(.int zs)])) _
      refine XS.istore X273.here hx rfl (hb hby at_76) rfl (l' := #[.val (.int p0_0), .val (.int p0_1), .val (.int p0_2), .val (.int p0_3), .val (.int (2 : Int32)), .val (.ref u_NAME), .val (.int zt), .val (.int zs), .unset, .unset, .unset, .unset, .unset, .unset, .unset, .unset, .unset, .unset]) rfl ?_
      show Steps p.tables e below (T273.setTop (mkF m 78 #[.val (.int p0_0), .val (.int p0_1), .val (.int p0_2), .val (.int p0_3), .val (.int (2 : Int32)), .val (.ref u_NAME), .val (.int zt), .val (.int zs), .unset, .unset, .unset, .unset, .unset, .unset, .unset, .unset, .unset, .unset] [])) _
      refine XS.iloadN X273.here hx rfl (hb hby at_78) rfl ?_
      show Steps p.tables e below (T273.setTop (mkF m 79 #[.val (.int p0_0), .val (.int p0_1), .val (.int p0_2), .val (.int p0_3), .val (.int (2 : Int32)), .val (.ref u_NAME), .val (.int zt), .val (.int zs), .unset, .unset, .unset, .unset, .unset, .unset, .unset, .unset, .unset, .unset] [(.int p0_1)])) _
      refine XS.bipush X273.here hx rfl (hb hby at_79) ?_
      show Steps p.tables e below (T273.setTop (mkF m 81 #[.val (.int p0_0), .val (.int p0_1), .val (.int p0_2), .val (.int p0_3), .val (.int (2 : Int32)), .val (.ref u_NAME), .val (.int zt), .val (.int zs), .unset, .unset, .unset, .unset, .unset, .unset, .unset, .unset, .unset, .unset] [(.int (8 : Int32)), (.int p0_1)])) _
      refine XS.iushr X273.here hx rfl (hb hby at_81) rfl ?_
      show Steps p.tables e below (T273.setTop (mkF m 82 #[.val (.int p0_0), .val (.int p0_1), .val (.int p0_2), .val (.int p0_3), .val (.int (2 : Int32)), .val (.ref u_NAME), .val (.int zt), .val (.int zs), .unset, .unset, .unset, .unset, .unset, .unset, .unset, .unset, .unset, .unset] [(.int ((p0_1.toUInt32 >>> ((8 : Int32) &&& 31).toUInt32).toInt32))])) _
      refine XS.sipush X273.here hx rfl (hb hby at_82) ?_
      show Steps p.tables e below (T273.setTop (mkF m 85 #[.val (.int p0_0), .val (.int p0_1), .val (.int p0_2), .val (.int p0_3), .val (.int (2 : Int32)), .val (.ref u_NAME), .val (.int zt), .val (.int zs), .unset, .unset, .unset, .unset, .unset, .unset, .unset, .unset, .unset, .unset] [(.int (255 : Int32)), (.int ((p0_1.toUInt32 >>> ((8 : Int32) &&& 31).toUInt32).toInt32))])) _
      refine XS.iand X273.here hx rfl (hb hby at_85) rfl ?_
      exact k
    obtain ⟨zc1, hzc1⟩ : ∃ z, z = (((p0_1.toUInt32 >>> ((8 : Int32) &&& 31).toUInt32).toInt32) &&& (255 : Int32)) := ⟨_, rfl⟩
    rw [← hzc1] at k276
    have hr_zc1 : ¬ (zc1 < (0 : Int32)) ∧ ¬ ((255 : Int32) < zc1) := by rw [hzc1]; exact own_m255 _
    have k277 : ∀ t, Steps p.tables e below (T273.setTop (mkF m 96 #[.val (.int p0_0), .val (.int p0_1), .val (.int p0_2), .val (.int p0_3), .val (.int (2 : Int32)), .val (.ref u_NAME), .val (.int zt), .val (.int zs), .val (.int zc1), .unset, .unset, .unset, .unset, .unset, .unset, .unset, .unset, .unset] [(.int (((p0_1.toUInt32 >>> ((16 : Int32) &&& 31).toUInt32).toInt32) &&& (255 : Int32)))])) t → Steps p.tables e below (s₁.setTop (entryFrame m #[(.int p0_0), (.int p0_1), (.int p0_2), (.int p0_3)] maxLocals)) t := by
      intro t k
      refine k276 t ?_
      show Steps p.tables e below (T273.setTop (mkF m 86 #[.val (.int p0_0), .val (.int p0_1), .val (.int p0_2), .val (.int p0_3), .val (.int (2 : Int32)), .val (.ref u_NAME), .val (.int zt), .val (.int zs), .unset, .unset, .unset, .unset, .unset, .unset, .unset, .unset, .unset, .unset] [(.int zc1)])) _
      refine XS.istore X273.here hx rfl (hb hby at_86) rfl (l' := #[.val (.int p0_0), .val (.int p0_1), .val (.int p0_2), .val (.int p0_3), .val (.int (2 : Int32)), .val (.ref u_NAME), .val (.int zt), .val (.int zs), .val (.int zc1), .unset, .unset, .unset, .unset, .unset, .unset, .unset, .unset, .unset]) rfl ?_
      show Steps p.tables e below (T273.setTop (mkF m 88 #[.val (.int p0_0), .val (.int p0_1), .val (.int p0_2), .val (.int p0_3), .val (.int (2 : Int32)), .val (.ref u_NAME), .val (.int zt), .val (.int zs), .val (.int zc1), .unset, .unset, .unset, .unset, .unset, .unset, .unset, .unset, .unset] [])) _
      refine XS.iloadN X273.here hx rfl (hb hby at_88) rfl ?_
      show Steps p.tables e below (T273.setTop (mkF m 89 #[.val (.int p0_0), .val (.int p0_1), .val (.int p0_2), .val (.int p0_3), .val (.int (2 : Int32)), .val (.ref u_NAME), .val (.int zt), .val (.int zs), .val (.int zc1), .unset, .unset, .unset, .unset, .unset, .unset, .unset, .unset, .unset] [(.int p0_1)])) _
      refine XS.bipush X273.here hx rfl (hb hby at_89) ?_
      show Steps p.tables e below (T273.setTop (mkF m 91 #[.val (.int p0_0), .val (.int p0_1), .val (.int p0_2), .val (.int p0_3), .val (.int (2 : Int32)), .val (.ref u_NAME), .val (.int zt), .val (.int zs), .val (.int zc1), .unset, .unset, .unset, .unset, .unset, .unset, .unset, .unset, .unset] [(.int (16 : Int32)), (.int p0_1)])) _
      refine XS.iushr X273.here hx rfl (hb hby at_91) rfl ?_
      show Steps p.tables e below (T273.setTop (mkF m 92 #[.val (.int p0_0), .val (.int p0_1), .val (.int p0_2), .val (.int p0_3), .val (.int (2 : Int32)), .val (.ref u_NAME), .val (.int zt), .val (.int zs), .val (.int zc1), .unset, .unset, .unset, .unset, .unset, .unset, .unset, .unset, .unset] [(.int ((p0_1.toUInt32 >>> ((16 : Int32) &&& 31).toUInt32).toInt32))])) _
      refine XS.sipush X273.here hx rfl (hb hby at_92) ?_
      show Steps p.tables e below (T273.setTop (mkF m 95 #[.val (.int p0_0), .val (.int p0_1), .val (.int p0_2), .val (.int p0_3), .val (.int (2 : Int32)), .val (.ref u_NAME), .val (.int zt), .val (.int zs), .val (.int zc1), .unset, .unset, .unset, .unset, .unset, .unset, .unset, .unset, .unset] [(.int (255 : Int32)), (.int ((p0_1.toUInt32 >>> ((16 : Int32) &&& 31).toUInt32).toInt32))])) _
      refine XS.iand X273.here hx rfl (hb hby at_95) rfl ?_
      exact k
    obtain ⟨zc2, hzc2⟩ : ∃ z, z = (((p0_1.toUInt32 >>> ((16 : Int32) &&& 31).toUInt32).toInt32) &&& (255 : Int32)) := ⟨_, rfl⟩
    rw [← hzc2] at k277
    have hr_zc2 : ¬ (zc2 < (0 : Int32)) ∧ ¬ ((255 : Int32) < zc2) := by rw [hzc2]; exact own_m255 _
    have k278 : ∀ t, Steps p.tables e below (T273.setTop (mkF m 106 #[.val (.int p0_0), .val (.int p0_1), .val (.int p0_2), .val (.int p0_3), .val (.int (2 : Int32)), .val (.ref u_NAME), .val (.int zt), .val (.int zs), .val (.int zc1), .val (.int zc2), .unset, .unset, .unset, .unset, .unset, .unset, .unset, .unset] [(.int (((p0_1.toUInt32 >>> ((24 : Int32) &&& 31).toUInt32).toInt32) &&& (255 : Int32)))])) t → Steps p.tables e below (s₁.setTop (entryFrame m #[(.int p0_0), (.int p0_1), (.int p0_2), (.int p0_3)] maxLocals)) t := by
      intro t k
      refine k277 t ?_
      show Steps p.tables e below (T273.setTop (mkF m 96 #[.val (.int p0_0), .val (.int p0_1), .val (.int p0_2), .val (.int p0_3), .val (.int (2 : Int32)), .val (.ref u_NAME), .val (.int zt), .val (.int zs), .val (.int zc1), .unset, .unset, .unset, .unset, .unset, .unset, .unset, .unset, .unset] [(.int zc2)])) _
      refine XS.istore X273.here hx rfl (hb hby at_96) rfl (l' := #[.val (.int p0_0), .val (.int p0_1), .val (.int p0_2), .val (.int p0_3), .val (.int (2 : Int32)), .val (.ref u_NAME), .val (.int zt), .val (.int zs), .val (.int zc1), .val (.int zc2), .unset, .unset, .unset, .unset, .unset, .unset, .unset, .unset]) rfl ?_
      show Steps p.tables e below (T273.setTop (mkF m 98 #[.val (.int p0_0), .val (.int p0_1), .val (.int p0_2), .val (.int p0_3), .val (.int (2 : Int32)), .val (.ref u_NAME), .val (.int zt), .val (.int zs), .val (.int zc1), .val (.int zc2), .unset, .unset, .unset, .unset, .unset, .unset, .unset, .unset] [])) _
      refine XS.iloadN X273.here hx rfl (hb hby at_98) rfl ?_
      show Steps p.tables e below (T273.setTop (mkF m 99 #[.val (.int p0_0), .val (.int p0_1), .val (.int p0_2), .val (.int p0_3), .val (.int (2 : Int32)), .val (.ref u_NAME), .val (.int zt), .val (.int zs), .val (.int zc1), .val (.int zc2), .unset, .unset, .unset, .unset, .unset, .unset, .unset, .unset] [(.int p0_1)])) _
      refine XS.bipush X273.here hx rfl (hb hby at_99) ?_
      show Steps p.tables e below (T273.setTop (mkF m 101 #[.val (.int p0_0), .val (.int p0_1), .val (.int p0_2), .val (.int p0_3), .val (.int (2 : Int32)), .val (.ref u_NAME), .val (.int zt), .val (.int zs), .val (.int zc1), .val (.int zc2), .unset, .unset, .unset, .unset, .unset, .unset, .unset, .unset] [(.int (24 : Int32)), (.int p0_1)])) _
      refine XS.iushr X273.here hx rfl (hb hby at_101) rfl ?_
      show Steps p.tables e below (T273.setTop (mkF m 102 #[.val (.int p0_0), .val (.int p0_1), .val (.int p0_2), .val (.int p0_3), .val (.int (2 : Int32)), .val (.ref u_NAME), .val (.int zt), .val (.int zs), .val (.int zc1), .val (.int zc2), .unset, .unset, .unset, .unset, .unset, .unset, .unset, .unset] [(.int ((p0_1.toUInt32 >>> ((24 : Int32) &&& 31).toUInt32).toInt32))])) _
      refine XS.sipush X273.here hx rfl (hb hby at_102) ?_
      show Steps p.tables e below (T273.setTop (mkF m 105 #[.val (.int p0_0), .val (.int p0_1), .val (.int p0_2), .val (.int p0_3), .val (.int (2 : Int32)), .val (.ref u_NAME), .val (.int zt), .val (.int zs), .val (.int zc1), .val (.int zc2), .unset, .unset, .unset, .unset, .unset, .unset, .unset, .unset] [(.int (255 : Int32)), (.int ((p0_1.toUInt32 >>> ((24 : Int32) &&& 31).toUInt32).toInt32))])) _
      refine XS.iand X273.here hx rfl (hb hby at_105) rfl ?_
      exact k
    obtain ⟨zc3, hzc3⟩ : ∃ z, z = (((p0_1.toUInt32 >>> ((24 : Int32) &&& 31).toUInt32).toInt32) &&& (255 : Int32)) := ⟨_, rfl⟩
    rw [← hzc3] at k278
    have hr_zc3 : ¬ (zc3 < (0 : Int32)) ∧ ¬ ((255 : Int32) < zc3) := by rw [hzc3]; exact own_m255 _
    have k279 : ∀ t, Steps p.tables e below (T273.setTop (mkF m 116 #[.val (.int p0_0), .val (.int p0_1), .val (.int p0_2), .val (.int p0_3), .val (.int (2 : Int32)), .val (.ref u_NAME), .val (.int zt), .val (.int zs), .val (.int zc1), .val (.int zc2), .val (.int zc3), .unset, .unset, .unset, .unset, .unset, .unset, .unset] [(.int (((p0_2.toUInt32 >>> ((8 : Int32) &&& 31).toUInt32).toInt32) &&& (255 : Int32)))])) t → Steps p.tables e below (s₁.setTop (entryFrame m #[(.int p0_0), (.int p0_1), (.int p0_2), (.int p0_3)] maxLocals)) t := by
      intro t k
      refine k278 t ?_
      show Steps p.tables e below (T273.setTop (mkF m 106 #[.val (.int p0_0), .val (.int p0_1), .val (.int p0_2), .val (.int p0_3), .val (.int (2 : Int32)), .val (.ref u_NAME), .val (.int zt), .val (.int zs), .val (.int zc1), .val (.int zc2), .unset, .unset, .unset, .unset, .unset, .unset, .unset, .unset] [(.int zc3)])) _
      refine XS.istore X273.here hx rfl (hb hby at_106) rfl (l' := #[.val (.int p0_0), .val (.int p0_1), .val (.int p0_2), .val (.int p0_3), .val (.int (2 : Int32)), .val (.ref u_NAME), .val (.int zt), .val (.int zs), .val (.int zc1), .val (.int zc2), .val (.int zc3), .unset, .unset, .unset, .unset, .unset, .unset, .unset]) rfl ?_
      show Steps p.tables e below (T273.setTop (mkF m 108 #[.val (.int p0_0), .val (.int p0_1), .val (.int p0_2), .val (.int p0_3), .val (.int (2 : Int32)), .val (.ref u_NAME), .val (.int zt), .val (.int zs), .val (.int zc1), .val (.int zc2), .val (.int zc3), .unset, .unset, .unset, .unset, .unset, .unset, .unset] [])) _
      refine XS.iloadN X273.here hx rfl (hb hby at_108) rfl ?_
      show Steps p.tables e below (T273.setTop (mkF m 109 #[.val (.int p0_0), .val (.int p0_1), .val (.int p0_2), .val (.int p0_3), .val (.int (2 : Int32)), .val (.ref u_NAME), .val (.int zt), .val (.int zs), .val (.int zc1), .val (.int zc2), .val (.int zc3), .unset, .unset, .unset, .unset, .unset, .unset, .unset] [(.int p0_2)])) _
      refine XS.bipush X273.here hx rfl (hb hby at_109) ?_
      show Steps p.tables e below (T273.setTop (mkF m 111 #[.val (.int p0_0), .val (.int p0_1), .val (.int p0_2), .val (.int p0_3), .val (.int (2 : Int32)), .val (.ref u_NAME), .val (.int zt), .val (.int zs), .val (.int zc1), .val (.int zc2), .val (.int zc3), .unset, .unset, .unset, .unset, .unset, .unset, .unset] [(.int (8 : Int32)), (.int p0_2)])) _
      refine XS.iushr X273.here hx rfl (hb hby at_111) rfl ?_
      show Steps p.tables e below (T273.setTop (mkF m 112 #[.val (.int p0_0), .val (.int p0_1), .val (.int p0_2), .val (.int p0_3), .val (.int (2 : Int32)), .val (.ref u_NAME), .val (.int zt), .val (.int zs), .val (.int zc1), .val (.int zc2), .val (.int zc3), .unset, .unset, .unset, .unset, .unset, .unset, .unset] [(.int ((p0_2.toUInt32 >>> ((8 : Int32) &&& 31).toUInt32).toInt32))])) _
      refine XS.sipush X273.here hx rfl (hb hby at_112) ?_
      show Steps p.tables e below (T273.setTop (mkF m 115 #[.val (.int p0_0), .val (.int p0_1), .val (.int p0_2), .val (.int p0_3), .val (.int (2 : Int32)), .val (.ref u_NAME), .val (.int zt), .val (.int zs), .val (.int zc1), .val (.int zc2), .val (.int zc3), .unset, .unset, .unset, .unset, .unset, .unset, .unset] [(.int (255 : Int32)), (.int ((p0_2.toUInt32 >>> ((8 : Int32) &&& 31).toUInt32).toInt32))])) _
      refine XS.iand X273.here hx rfl (hb hby at_115) rfl ?_
      exact k
    obtain ⟨zd1, hzd1⟩ : ∃ z, z = (((p0_2.toUInt32 >>> ((8 : Int32) &&& 31).toUInt32).toInt32) &&& (255 : Int32)) := ⟨_, rfl⟩
    rw [← hzd1] at k279
    have hr_zd1 : ¬ (zd1 < (0 : Int32)) ∧ ¬ ((255 : Int32) < zd1) := by rw [hzd1]; exact own_m255 _
    have k280 : ∀ t, Steps p.tables e below (T273.setTop (mkF m 126 #[.val (.int p0_0), .val (.int p0_1), .val (.int p0_2), .val (.int p0_3), .val (.int (2 : Int32)), .val (.ref u_NAME), .val (.int zt), .val (.int zs), .val (.int zc1), .val (.int zc2), .val (.int zc3), .val (.int zd1), .unset, .unset, .unset, .unset, .unset, .unset] [(.int (((p0_2.toUInt32 >>> ((16 : Int32) &&& 31).toUInt32).toInt32) &&& (255 : Int32)))])) t → Steps p.tables e below (s₁.setTop (entryFrame m #[(.int p0_0), (.int p0_1), (.int p0_2), (.int p0_3)] maxLocals)) t := by
      intro t k
      refine k279 t ?_
      show Steps p.tables e below (T273.setTop (mkF m 116 #[.val (.int p0_0), .val (.int p0_1), .val (.int p0_2), .val (.int p0_3), .val (.int (2 : Int32)), .val (.ref u_NAME), .val (.int zt), .val (.int zs), .val (.int zc1), .val (.int zc2), .val (.int zc3), .unset, .unset, .unset, .unset, .unset, .unset, .unset] [(.int zd1)])) _
      refine XS.istore X273.here hx rfl (hb hby at_116) rfl (l' := #[.val (.int p0_0), .val (.int p0_1), .val (.int p0_2), .val (.int p0_3), .val (.int (2 : Int32)), .val (.ref u_NAME), .val (.int zt), .val (.int zs), .val (.int zc1), .val (.int zc2), .val (.int zc3), .val (.int zd1), .unset, .unset, .unset, .unset, .unset, .unset]) rfl ?_
      show Steps p.tables e below (T273.setTop (mkF m 118 #[.val (.int p0_0), .val (.int p0_1), .val (.int p0_2), .val (.int p0_3), .val (.int (2 : Int32)), .val (.ref u_NAME), .val (.int zt), .val (.int zs), .val (.int zc1), .val (.int zc2), .val (.int zc3), .val (.int zd1), .unset, .unset, .unset, .unset, .unset, .unset] [])) _
      refine XS.iloadN X273.here hx rfl (hb hby at_118) rfl ?_
      show Steps p.tables e below (T273.setTop (mkF m 119 #[.val (.int p0_0), .val (.int p0_1), .val (.int p0_2), .val (.int p0_3), .val (.int (2 : Int32)), .val (.ref u_NAME), .val (.int zt), .val (.int zs), .val (.int zc1), .val (.int zc2), .val (.int zc3), .val (.int zd1), .unset, .unset, .unset, .unset, .unset, .unset] [(.int p0_2)])) _
      refine XS.bipush X273.here hx rfl (hb hby at_119) ?_
      show Steps p.tables e below (T273.setTop (mkF m 121 #[.val (.int p0_0), .val (.int p0_1), .val (.int p0_2), .val (.int p0_3), .val (.int (2 : Int32)), .val (.ref u_NAME), .val (.int zt), .val (.int zs), .val (.int zc1), .val (.int zc2), .val (.int zc3), .val (.int zd1), .unset, .unset, .unset, .unset, .unset, .unset] [(.int (16 : Int32)), (.int p0_2)])) _
      refine XS.iushr X273.here hx rfl (hb hby at_121) rfl ?_
      show Steps p.tables e below (T273.setTop (mkF m 122 #[.val (.int p0_0), .val (.int p0_1), .val (.int p0_2), .val (.int p0_3), .val (.int (2 : Int32)), .val (.ref u_NAME), .val (.int zt), .val (.int zs), .val (.int zc1), .val (.int zc2), .val (.int zc3), .val (.int zd1), .unset, .unset, .unset, .unset, .unset, .unset] [(.int ((p0_2.toUInt32 >>> ((16 : Int32) &&& 31).toUInt32).toInt32))])) _
      refine XS.sipush X273.here hx rfl (hb hby at_122) ?_
      show Steps p.tables e below (T273.setTop (mkF m 125 #[.val (.int p0_0), .val (.int p0_1), .val (.int p0_2), .val (.int p0_3), .val (.int (2 : Int32)), .val (.ref u_NAME), .val (.int zt), .val (.int zs), .val (.int zc1), .val (.int zc2), .val (.int zc3), .val (.int zd1), .unset, .unset, .unset, .unset, .unset, .unset] [(.int (255 : Int32)), (.int ((p0_2.toUInt32 >>> ((16 : Int32) &&& 31).toUInt32).toInt32))])) _
      refine XS.iand X273.here hx rfl (hb hby at_125) rfl ?_
      exact k
    obtain ⟨zd2, hzd2⟩ : ∃ z, z = (((p0_2.toUInt32 >>> ((16 : Int32) &&& 31).toUInt32).toInt32) &&& (255 : Int32)) := ⟨_, rfl⟩
    rw [← hzd2] at k280
    have hr_zd2 : ¬ (zd2 < (0 : Int32)) ∧ ¬ ((255 : Int32) < zd2) := by rw [hzd2]; exact own_m255 _
    have k281 : ∀ t, Steps p.tables e below (T273.setTop (mkF m 136 #[.val (.int p0_0), .val (.int p0_1), .val (.int p0_2), .val (.int p0_3), .val (.int (2 : Int32)), .val (.ref u_NAME), .val (.int zt), .val (.int zs), .val (.int zc1), .val (.int zc2), .val (.int zc3), .val (.int zd1), .val (.int zd2), .unset, .unset, .unset, .unset, .unset] [(.int (((p0_2.toUInt32 >>> ((24 : Int32) &&& 31).toUInt32).toInt32) &&& (255 : Int32)))])) t → Steps p.tables e below (s₁.setTop (entryFrame m #[(.int p0_0), (.int p0_1), (.int p0_2), (.int p0_3)] maxLocals)) t := by
      intro t k
      refine k280 t ?_
      show Steps p.tables e below (T273.setTop (mkF m 126 #[.val (.int p0_0), .val (.int p0_1), .val (.int p0_2), .val (.int p0_3), .val (.int (2 : Int32)), .val (.ref u_NAME), .val (.int zt), .val (.int zs), .val (.int zc1), .val (.int zc2), .val (.int zc3), .val (.int zd1), .unset, .unset, .unset, .unset, .unset, .unset] [(.int zd2)])) _
      refine XS.istore X273.here hx rfl (hb hby at_126) rfl (l' := #[.val (.int p0_0), .val (.int p0_1), .val (.int p0_2), .val (.int p0_3), .val (.int (2 : Int32)), .val (.ref u_NAME), .val (.int zt), .val (.int zs), .val (.int zc1), .val (.int zc2), .val (.int zc3), .val (.int zd1), .val (.int zd2), .unset, .unset, .unset, .unset, .unset]) rfl ?_
      show Steps p.tables e below (T273.setTop (mkF m 128 #[.val (.int p0_0), .val (.int p0_1), .val (.int p0_2), .val (.int p0_3), .val (.int (2 : Int32)), .val (.ref u_NAME), .val (.int zt), .val (.int zs), .val (.int zc1), .val (.int zc2), .val (.int zc3), .val (.int zd1), .val (.int zd2), .unset, .unset, .unset, .unset, .unset] [])) _
      refine XS.iloadN X273.here hx rfl (hb hby at_128) rfl ?_
      show Steps p.tables e below (T273.setTop (mkF m 129 #[.val (.int p0_0), .val (.int p0_1), .val (.int p0_2), .val (.int p0_3), .val (.int (2 : Int32)), .val (.ref u_NAME), .val (.int zt), .val (.int zs), .val (.int zc1), .val (.int zc2), .val (.int zc3), .val (.int zd1), .val (.int zd2), .unset, .unset, .unset, .unset, .unset] [(.int p0_2)])) _
      refine XS.bipush X273.here hx rfl (hb hby at_129) ?_
      show Steps p.tables e below (T273.setTop (mkF m 131 #[.val (.int p0_0), .val (.int p0_1), .val (.int p0_2), .val (.int p0_3), .val (.int (2 : Int32)), .val (.ref u_NAME), .val (.int zt), .val (.int zs), .val (.int zc1), .val (.int zc2), .val (.int zc3), .val (.int zd1), .val (.int zd2), .unset, .unset, .unset, .unset, .unset] [(.int (24 : Int32)), (.int p0_2)])) _
      refine XS.iushr X273.here hx rfl (hb hby at_131) rfl ?_
      show Steps p.tables e below (T273.setTop (mkF m 132 #[.val (.int p0_0), .val (.int p0_1), .val (.int p0_2), .val (.int p0_3), .val (.int (2 : Int32)), .val (.ref u_NAME), .val (.int zt), .val (.int zs), .val (.int zc1), .val (.int zc2), .val (.int zc3), .val (.int zd1), .val (.int zd2), .unset, .unset, .unset, .unset, .unset] [(.int ((p0_2.toUInt32 >>> ((24 : Int32) &&& 31).toUInt32).toInt32))])) _
      refine XS.sipush X273.here hx rfl (hb hby at_132) ?_
      show Steps p.tables e below (T273.setTop (mkF m 135 #[.val (.int p0_0), .val (.int p0_1), .val (.int p0_2), .val (.int p0_3), .val (.int (2 : Int32)), .val (.ref u_NAME), .val (.int zt), .val (.int zs), .val (.int zc1), .val (.int zc2), .val (.int zc3), .val (.int zd1), .val (.int zd2), .unset, .unset, .unset, .unset, .unset] [(.int (255 : Int32)), (.int ((p0_2.toUInt32 >>> ((24 : Int32) &&& 31).toUInt32).toInt32))])) _
      refine XS.iand X273.here hx rfl (hb hby at_135) rfl ?_
      exact k
    obtain ⟨zd3, hzd3⟩ : ∃ z, z = (((p0_2.toUInt32 >>> ((24 : Int32) &&& 31).toUInt32).toInt32) &&& (255 : Int32)) := ⟨_, rfl⟩
    rw [← hzd3] at k281
    have hr_zd3 : ¬ (zd3 < (0 : Int32)) ∧ ¬ ((255 : Int32) < zd3) := by rw [hzd3]; exact own_m255 _
    have k282 : ∀ t, Steps p.tables e below (T273.setTop (mkF m 143 #[.val (.int p0_0), .val (.int p0_1), .val (.int p0_2), .val (.int p0_3), .val (.int (2 : Int32)), .val (.ref u_NAME), .val (.int zt), .val (.int zs), .val (.int zc1), .val (.int zc2), .val (.int zc3), .val (.int zd1), .val (.int zd2), .val (.int zd3), .unset, .unset, .unset, .unset] [(.int zc1.toUInt32.toUInt16.toUInt32.toInt32), (.int zt)])) t → Steps p.tables e below (s₁.setTop (entryFrame m #[(.int p0_0), (.int p0_1), (.int p0_2), (.int p0_3)] maxLocals)) t := by
      intro t k
      refine k281 t ?_
      show Steps p.tables e below (T273.setTop (mkF m 136 #[.val (.int p0_0), .val (.int p0_1), .val (.int p0_2), .val (.int p0_3), .val (.int (2 : Int32)), .val (.ref u_NAME), .val (.int zt), .val (.int zs), .val (.int zc1), .val (.int zc2), .val (.int zc3), .val (.int zd1), .val (.int zd2), .unset, .unset, .unset, .unset, .unset] [(.int zd3)])) _
      refine XS.istore X273.here hx rfl (hb hby at_136) rfl (l' := #[.val (.int p0_0), .val (.int p0_1), .val (.int p0_2), .val (.int p0_3), .val (.int (2 : Int32)), .val (.ref u_NAME), .val (.int zt), .val (.int zs), .val (.int zc1), .val (.int zc2), .val (.int zc3), .val (.int zd1), .val (.int zd2), .val (.int zd3), .unset, .unset, .unset, .unset]) rfl ?_
      show Steps p.tables e below (T273.setTop (mkF m 138 #[.val (.int p0_0), .val (.int p0_1), .val (.int p0_2), .val (.int p0_3), .val (.int (2 : Int32)), .val (.ref u_NAME), .val (.int zt), .val (.int zs), .val (.int zc1), .val (.int zc2), .val (.int zc3), .val (.int zd1), .val (.int zd2), .val (.int zd3), .unset, .unset, .unset, .unset] [])) _
      refine XS.iload X273.here hx rfl (hb hby at_138) rfl ?_
      show Steps p.tables e below (T273.setTop (mkF m 140 #[.val (.int p0_0), .val (.int p0_1), .val (.int p0_2), .val (.int p0_3), .val (.int (2 : Int32)), .val (.ref u_NAME), .val (.int zt), .val (.int zs), .val (.int zc1), .val (.int zc2), .val (.int zc3), .val (.int zd1), .val (.int zd2), .val (.int zd3), .unset, .unset, .unset, .unset] [(.int zt)])) _
      refine XS.iload X273.here hx rfl (hb hby at_140) rfl ?_
      show Steps p.tables e below (T273.setTop (mkF m 142 #[.val (.int p0_0), .val (.int p0_1), .val (.int p0_2), .val (.int p0_3), .val (.int (2 : Int32)), .val (.ref u_NAME), .val (.int zt), .val (.int zs), .val (.int zc1), .val (.int zc2), .val (.int zc3), .val (.int zd1), .val (.int zd2), .val (.int zd3), .unset, .unset, .unset, .unset] [(.int zc1), (.int zt)])) _
      refine XS.i2c X273.here hx rfl (hb hby at_142) rfl ?_
      exact k
    rw [show zc1.toUInt32.toUInt16.toUInt32.toInt32 = zc1 from own_i2c _ hr_zc1] at k282
    have k283 : ∀ t, Steps p.tables e below (T273.setTop (mkF m 146 #[.val (.int p0_0), .val (.int p0_1), .val (.int p0_2), .val (.int p0_3), .val (.int (2 : Int32)), .val (.ref u_NAME), .val (.int zt), .val (.int zs), .val (.int zc1), .val (.int zc2), .val (.int zc3), .val (.int zd1), .val (.int zd2), .val (.int zd3), .unset, .unset, .unset, .unset] [(.int zc2.toUInt32.toUInt16.toUInt32.toInt32), (.int zc1), (.int zt)])) t → Steps p.tables e below (s₁.setTop (entryFrame m #[(.int p0_0), (.int p0_1), (.int p0_2), (.int p0_3)] maxLocals)) t := by
      intro t k
      refine k282 t ?_
      show Steps p.tables e below (T273.setTop (mkF m 143 #[.val (.int p0_0), .val (.int p0_1), .val (.int p0_2), .val (.int p0_3), .val (.int (2 : Int32)), .val (.ref u_NAME), .val (.int zt), .val (.int zs), .val (.int zc1), .val (.int zc2), .val (.int zc3), .val (.int zd1), .val (.int zd2), .val (.int zd3), .unset, .unset, .unset, .unset] [(.int zc1), (.int zt)])) _
      refine XS.iload X273.here hx rfl (hb hby at_143) rfl ?_
      show Steps p.tables e below (T273.setTop (mkF m 145 #[.val (.int p0_0), .val (.int p0_1), .val (.int p0_2), .val (.int p0_3), .val (.int (2 : Int32)), .val (.ref u_NAME), .val (.int zt), .val (.int zs), .val (.int zc1), .val (.int zc2), .val (.int zc3), .val (.int zd1), .val (.int zd2), .val (.int zd3), .unset, .unset, .unset, .unset] [(.int zc2), (.int zc1), (.int zt)])) _
      refine XS.i2c X273.here hx rfl (hb hby at_145) rfl ?_
      exact k
    rw [show zc2.toUInt32.toUInt16.toUInt32.toInt32 = zc2 from own_i2c _ hr_zc2] at k283
    have k284 : ∀ t, Steps p.tables e below (T273.setTop (mkF m 149 #[.val (.int p0_0), .val (.int p0_1), .val (.int p0_2), .val (.int p0_3), .val (.int (2 : Int32)), .val (.ref u_NAME), .val (.int zt), .val (.int zs), .val (.int zc1), .val (.int zc2), .val (.int zc3), .val (.int zd1), .val (.int zd2), .val (.int zd3), .unset, .unset, .unset, .unset] [(.int zc3.toUInt32.toUInt16.toUInt32.toInt32), (.int zc2), (.int zc1), (.int zt)])) t → Steps p.tables e below (s₁.setTop (entryFrame m #[(.int p0_0), (.int p0_1), (.int p0_2), (.int p0_3)] maxLocals)) t := by
      intro t k
      refine k283 t ?_
      show Steps p.tables e below (T273.setTop (mkF m 146 #[.val (.int p0_0), .val (.int p0_1), .val (.int p0_2), .val (.int p0_3), .val (.int (2 : Int32)), .val (.ref u_NAME), .val (.int zt), .val (.int zs), .val (.int zc1), .val (.int zc2), .val (.int zc3), .val (.int zd1), .val (.int zd2), .val (.int zd3), .unset, .unset, .unset, .unset] [(.int zc2), (.int zc1), (.int zt)])) _
      refine XS.iload X273.here hx rfl (hb hby at_146) rfl ?_
      show Steps p.tables e below (T273.setTop (mkF m 148 #[.val (.int p0_0), .val (.int p0_1), .val (.int p0_2), .val (.int p0_3), .val (.int (2 : Int32)), .val (.ref u_NAME), .val (.int zt), .val (.int zs), .val (.int zc1), .val (.int zc2), .val (.int zc3), .val (.int zd1), .val (.int zd2), .val (.int zd3), .unset, .unset, .unset, .unset] [(.int zc3), (.int zc2), (.int zc1), (.int zt)])) _
      refine XS.i2c X273.here hx rfl (hb hby at_148) rfl ?_
      exact k
    rw [show zc3.toUInt32.toUInt16.toUInt32.toInt32 = zc3 from own_i2c _ hr_zc3] at k284
    obtain ⟨_, _, ⟨T285, L285, k285, n285⟩, -, X285, hS2, hg2, ⟨Lc285, hQ285, l285, y285, z285, hC285⟩, st285⟩ := callSS X273 hx (y := (⟨"com/example/oyster/oyster/engine/TokenIsSymbolPinLaw", "make", "(ICCC)Ljava/lang/String;"⟩ : MethodName)) hown (mvT hZ (hw _ (List.mem_of_getElem? (i := 4) rfl))) (mvT hZ (hw _ (List.mem_of_getElem? (i := 5) rfl))) (mvT hZ (hw _ (List.mem_of_getElem? (i := 6) rfl))) (mvT hZ (hw _ (List.mem_of_getElem? (i := 7) rfl))) (by decide) (backOfSH (W := 0) (rm3 l Z a0 hw [] hEL wS zt zc1 zc2 zc3 cs h0 n0 Z0 Sc hcs hr_zc1.1 hr_zc1.2 hr_zc2.1 hr_zc2.2 hr_zc3.1 hr_zc3.2) hZ (hw _ (List.mem_of_getElem? (i := 7) rfl)) (hw _ (List.mem_of_getElem? (i := 6) rfl)) (by decide) (by decide) hEL hCR.1) (g := (mkF m 149 #[.val (.int p0_0), .val (.int p0_1), .val (.int p0_2), .val (.int p0_3), .val (.int (2 : Int32)), .val (.ref u_NAME), .val (.int zt), .val (.int zs), .val (.int zc1), .val (.int zc2), .val (.int zc3), .val (.int zd1), .val (.int zd2), .val (.int zd3), .unset, .unset, .unset, .unset] [(.int zc3), (.int zc2), (.int zc1), (.int zt)])) rfl (by rw [hml]; rfl) (argsL := [(.int zt), (.int zc1), (.int zc2), (.int zc3)]) (rest := []) (lenOf pd_4 rfl) rfl (by show 2 * 0 + _ ≤ _; exact Nat.le_of_eq rfl) (hb hby at_149) (fun _ _ => ⟨rfl, e273, (by decide : 0 + 6 ≤ _), (by decide : 0 + 12 ≤ _)⟩)
    dsimp only [Pt.U, Pt.locs, Pt.cells, Pt.slots] at X285 hS2 hg2 hC285 l285 y285 z285 st285 hQ285
    subst l285 y285 z285
    obtain ⟨X285, hS, hZ, hown⟩ := rebS hS (by rw [e273]; exact hk) X285 hS2 hg2 hZ hown
    have hk := Nat.le_refl T285.heap.size
    have hCR := hCR.trans hC285
    obtain ⟨x3_285, d3_285, kv3_285, rfl, N285q, Kc285, ggx3_285, szx3_285, G285_0, G285_1, G285_2, G285_3⟩ := hQ285
    have ne286 : u_NUMBER ≠ x3_285 := Nat.ne_of_lt (Nat.lt_of_lt_of_le E_u_NUMBER.lt szx3_285)
    have ne287 : u_SYMBOL ≠ x3_285 := Nat.ne_of_lt (Nat.lt_of_lt_of_le E_u_SYMBOL.lt szx3_285)
    have ne288 : u_NAME ≠ x3_285 := Nat.ne_of_lt (Nat.lt_of_lt_of_le E_u_NAME.lt szx3_285)
    have ne289 : u_END ≠ x3_285 := Nat.ne_of_lt (Nat.lt_of_lt_of_le E_u_END.lt szx3_285)
    have ne290 : u_STRING ≠ x3_285 := Nat.ne_of_lt (Nat.lt_of_lt_of_le E_u_STRING.lt szx3_285)
    have Zs285 : n0 ≤ T285.heap.size := Nat.le_trans Z0 Kc285.1
    have F291 : Sta Z T285.heap "com/example/oyster/oyster/engine/Tokens$Kind" "NUMBER" "Lcom/example/oyster/oyster/engine/Tokens$Kind;" (.ref u_NUMBER) := own_stakeep S_NUMBER Kc285 all0
    have F292 : Exa Z T285.heap u_NUMBER "com/example/oyster/oyster/engine/Tokens$Kind" := E_u_NUMBER.keep Kc285
    have F293 : Sta Z T285.heap "com/example/oyster/oyster/engine/Tokens$Kind" "SYMBOL" "Lcom/example/oyster/oyster/engine/Tokens$Kind;" (.ref u_SYMBOL) := own_stakeep S_SYMBOL Kc285 all0
    have F294 : Exa Z T285.heap u_SYMBOL "com/example/oyster/oyster/engine/Tokens$Kind" := E_u_SYMBOL.keep Kc285
    have F295 : Fld Z T285.heap u_NUMBER "java/lang/Enum" "ordinal" "I" (.int (0 : Int32)) := F_u_NUMBER_ordinal.keep Kc285 nin0
    have F296 : Fld Z T285.heap u_SYMBOL "java/lang/Enum" "ordinal" "I" (.int (3 : Int32)) := F_u_SYMBOL_ordinal.keep Kc285 nin0
    have F297 : Sta Z T285.heap "com/example/oyster/oyster/engine/Tokens$Kind" "NAME" "Lcom/example/oyster/oyster/engine/Tokens$Kind;" (.ref u_NAME) := own_stakeep S_NAME Kc285 all0
    have F298 : Exa Z T285.heap u_NAME "com/example/oyster/oyster/engine/Tokens$Kind" := E_u_NAME.keep Kc285
    have F299 : Fld Z T285.heap u_NAME "java/lang/Enum" "ordinal" "I" (.int (2 : Int32)) := F_u_NAME_ordinal.keep Kc285 nin0
    have F300 : Sta Z T285.heap "com/example/oyster/oyster/engine/Tokens$Kind" "END" "Lcom/example/oyster/oyster/engine/Tokens$Kind;" (.ref u_END) := own_stakeep S_END Kc285 all0
    have F301 : Exa Z T285.heap u_END "com/example/oyster/oyster/engine/Tokens$Kind" := E_u_END.keep Kc285
    have F302 : Fld Z T285.heap u_END "java/lang/Enum" "ordinal" "I" (.int (4 : Int32)) := F_u_END_ordinal.keep Kc285 nin0
    have F303 : Sta Z T285.heap "com/example/oyster/oyster/engine/Tokens$Kind" "STRING" "Lcom/example/oyster/oyster/engine/Tokens$Kind;" (.ref u_STRING) := own_stakeep S_STRING Kc285 all0
    have F304 : Exa Z T285.heap u_STRING "com/example/oyster/oyster/engine/Tokens$Kind" := E_u_STRING.keep Kc285
    have F305 : Fld Z T285.heap u_STRING "java/lang/Enum" "ordinal" "I" (.int (1 : Int32)) := F_u_STRING_ordinal.keep Kc285 nin0
    have F306 : Sta Z T285.heap "java/lang/String" "COMPACT_STRINGS" "Z" (.int cs) := own_stakeep Sc Kc285 all0
    have N285 := Fr.app N0 N285q
    have k307 : ∀ t, Steps p.tables e below (T285.setTop (mkF m 161 #[.val (.int p0_0), .val (.int p0_1), .val (.int p0_2), .val (.int p0_3), .val (.int (2 : Int32)), .val (.ref u_NAME), .val (.int zt), .val (.int zs), .val (.int zc1), .val (.int zc2), .val (.int zc3), .val (.int zd1), .val (.int zd2), .val (.int zd3), .val (.ref x3_285), .unset, .unset, .unset] [(.int (zc1 ^^^ zd1)), (.int zs)])) t → Steps p.tables e below (s₁.setTop (entryFrame m #[(.int p0_0), (.int p0_1), (.int p0_2), (.int p0_3)] maxLocals)) t := by
      intro t k
      refine k284 t ?_
      show Steps p.tables e below (T273.setTop (mkF m 149 #[.val (.int p0_0), .val (.int p0_1), .val (.int p0_2), .val (.int p0_3), .val (.int (2 : Int32)), .val (.ref u_NAME), .val (.int zt), .val (.int zs), .val (.int zc1), .val (.int zc2), .val (.int zc3), .val (.int zd1), .val (.int zd2), .val (.int zd3), .unset, .unset, .unset, .unset] [(.int zc3), (.int zc2), (.int zc1), (.int zt)])) _
      refine st285.trans ?_
      show Steps p.tables e below (T285.setTop (mkF m 152 #[.val (.int p0_0), .val (.int p0_1), .val (.int p0_2), .val (.int p0_3), .val (.int (2 : Int32)), .val (.ref u_NAME), .val (.int zt), .val (.int zs), .val (.int zc1), .val (.int zc2), .val (.int zc3), .val (.int zd1), .val (.int zd2), .val (.int zd3), .unset, .unset, .unset, .unset] [(.ref x3_285)])) _
      refine XS.astore X285.here hx rfl (hb hby at_152) rfl rfl (l' := #[.val (.int p0_0), .val (.int p0_1), .val (.int p0_2), .val (.int p0_3), .val (.int (2 : Int32)), .val (.ref u_NAME), .val (.int zt), .val (.int zs), .val (.int zc1), .val (.int zc2), .val (.int zc3), .val (.int zd1), .val (.int zd2), .val (.int zd3), .val (.ref x3_285), .unset, .unset, .unset]) rfl ?_
      show Steps p.tables e below (T285.setTop (mkF m 154 #[.val (.int p0_0), .val (.int p0_1), .val (.int p0_2), .val (.int p0_3), .val (.int (2 : Int32)), .val (.ref u_NAME), .val (.int zt), .val (.int zs), .val (.int zc1), .val (.int zc2), .val (.int zc3), .val (.int zd1), .val (.int zd2), .val (.int zd3), .val (.ref x3_285), .unset, .unset, .unset] [])) _
      refine XS.iload X285.here hx rfl (hb hby at_154) rfl ?_
      show Steps p.tables e below (T285.setTop (mkF m 156 #[.val (.int p0_0), .val (.int p0_1), .val (.int p0_2), .val (.int p0_3), .val (.int (2 : Int32)), .val (.ref u_NAME), .val (.int zt), .val (.int zs), .val (.int zc1), .val (.int zc2), .val (.int zc3), .val (.int zd1), .val (.int zd2), .val (.int zd3), .val (.ref x3_285), .unset, .unset, .unset] [(.int zs)])) _
      refine XS.iload X285.here hx rfl (hb hby at_156) rfl ?_
      show Steps p.tables e below (T285.setTop (mkF m 158 #[.val (.int p0_0), .val (.int p0_1), .val (.int p0_2), .val (.int p0_3), .val (.int (2 : Int32)), .val (.ref u_NAME), .val (.int zt), .val (.int zs), .val (.int zc1), .val (.int zc2), .val (.int zc3), .val (.int zd1), .val (.int zd2), .val (.int zd3), .val (.ref x3_285), .unset, .unset, .unset] [(.int zc1), (.int zs)])) _
      refine XS.iload X285.here hx rfl (hb hby at_158) rfl ?_
      show Steps p.tables e below (T285.setTop (mkF m 160 #[.val (.int p0_0), .val (.int p0_1), .val (.int p0_2), .val (.int p0_3), .val (.int (2 : Int32)), .val (.ref u_NAME), .val (.int zt), .val (.int zs), .val (.int zc1), .val (.int zc2), .val (.int zc3), .val (.int zd1), .val (.int zd2), .val (.int zd3), .val (.ref x3_285), .unset, .unset, .unset] [(.int zd1), (.int zc1), (.int zs)])) _
      refine XS.ixor X285.here hx rfl (hb hby at_160) rfl ?_
      exact k
    obtain ⟨zx1, hzx1⟩ : ∃ z, z = (zc1 ^^^ zd1) := ⟨_, rfl⟩
    rw [← hzx1] at k307
    have hr_zx1 : ¬ (zx1 < (0 : Int32)) ∧ ¬ ((255 : Int32) < zx1) := by rw [hzx1]; exact own_xorr _ _ hr_zc1 hr_zd1
    have k308 : ∀ t, Steps p.tables e below (T285.setTop (mkF m 162 #[.val (.int p0_0), .val (.int p0_1), .val (.int p0_2), .val (.int p0_3), .val (.int (2 : Int32)), .val (.ref u_NAME), .val (.int zt), .val (.int zs), .val (.int zc1), .val (.int zc2), .val (.int zc3), .val (.int zd1), .val (.int zd2), .val (.int zd3), .val (.ref x3_285), .unset, .unset, .unset] [(.int zx1.toUInt32.toUInt16.toUInt32.toInt32), (.int zs)])) t → Steps p.tables e below (s₁.setTop (entryFrame m #[(.int p0_0), (.int p0_1), (.int p0_2), (.int p0_3)] maxLocals)) t := by
      intro t k
      refine k307 t ?_
      show Steps p.tables e below (T285.setTop (mkF m 161 #[.val (.int p0_0), .val (.int p0_1), .val (.int p0_2), .val (.int p0_3), .val (.int (2 : Int32)), .val (.ref u_NAME), .val (.int zt), .val (.int zs), .val (.int zc1), .val (.int zc2), .val (.int zc3), .val (.int zd1), .val (.int zd2), .val (.int zd3), .val (.ref x3_285), .unset, .unset, .unset] [(.int zx1), (.int zs)])) _
      refine XS.i2c X285.here hx rfl (hb hby at_161) rfl ?_
      exact k
    rw [show zx1.toUInt32.toUInt16.toUInt32.toInt32 = zx1 from own_i2c _ hr_zx1] at k308
    have k309 : ∀ t, Steps p.tables e below (T285.setTop (mkF m 167 #[.val (.int p0_0), .val (.int p0_1), .val (.int p0_2), .val (.int p0_3), .val (.int (2 : Int32)), .val (.ref u_NAME), .val (.int zt), .val (.int zs), .val (.int zc1), .val (.int zc2), .val (.int zc3), .val (.int zd1), .val (.int zd2), .val (.int zd3), .val (.ref x3_285), .unset, .unset, .unset] [(.int (zc2 ^^^ zd2)), (.int zx1), (.int zs)])) t → Steps p.tables e below (s₁.setTop (entryFrame m #[(.int p0_0), (.int p0_1), (.int p0_2), (.int p0_3)] maxLocals)) t := by
      intro t k
      refine k308 t ?_
      show Steps p.tables e below (T285.setTop (mkF m 162 #[.val (.int p0_0), .val (.int p0_1), .val (.int p0_2), .val (.int p0_3), .val (.int (2 : Int32)), .val (.ref u_NAME), .val (.int zt), .val (.int zs), .val (.int zc1), .val (.int zc2), .val (.int zc3), .val (.int zd1), .val (.int zd2), .val (.int zd3), .val (.ref x3_285), .unset, .unset, .unset] [(.int zx1), (.int zs)])) _
      refine XS.iload X285.here hx rfl (hb hby at_162) rfl ?_
      show Steps p.tables e below (T285.setTop (mkF m 164 #[.val (.int p0_0), .val (.int p0_1), .val (.int p0_2), .val (.int p0_3), .val (.int (2 : Int32)), .val (.ref u_NAME), .val (.int zt), .val (.int zs), .val (.int zc1), .val (.int zc2), .val (.int zc3), .val (.int zd1), .val (.int zd2), .val (.int zd3), .val (.ref x3_285), .unset, .unset, .unset] [(.int zc2), (.int zx1), (.int zs)])) _
      refine XS.iload X285.here hx rfl (hb hby at_164) rfl ?_
      show Steps p.tables e below (T285.setTop (mkF m 166 #[.val (.int p0_0), .val (.int p0_1), .val (.int p0_2), .val (.int p0_3), .val (.int (2 : Int32)), .val (.ref u_NAME), .val (.int zt), .val (.int zs), .val (.int zc1), .val (.int zc2), .val (.int zc3), .val (.int zd1), .val (.int zd2), .val (.int zd3), .val (.ref x3_285), .unset, .unset, .unset] [(.int zd2), (.int zc2), (.int zx1), (.int zs)])) _
      refine XS.ixor X285.here hx rfl (hb hby at_166) rfl ?_
      exact k
    obtain ⟨zx2, hzx2⟩ : ∃ z, z = (zc2 ^^^ zd2) := ⟨_, rfl⟩
    rw [← hzx2] at k309
    have hr_zx2 : ¬ (zx2 < (0 : Int32)) ∧ ¬ ((255 : Int32) < zx2) := by rw [hzx2]; exact own_xorr _ _ hr_zc2 hr_zd2
    have k310 : ∀ t, Steps p.tables e below (T285.setTop (mkF m 168 #[.val (.int p0_0), .val (.int p0_1), .val (.int p0_2), .val (.int p0_3), .val (.int (2 : Int32)), .val (.ref u_NAME), .val (.int zt), .val (.int zs), .val (.int zc1), .val (.int zc2), .val (.int zc3), .val (.int zd1), .val (.int zd2), .val (.int zd3), .val (.ref x3_285), .unset, .unset, .unset] [(.int zx2.toUInt32.toUInt16.toUInt32.toInt32), (.int zx1), (.int zs)])) t → Steps p.tables e below (s₁.setTop (entryFrame m #[(.int p0_0), (.int p0_1), (.int p0_2), (.int p0_3)] maxLocals)) t := by
      intro t k
      refine k309 t ?_
      show Steps p.tables e below (T285.setTop (mkF m 167 #[.val (.int p0_0), .val (.int p0_1), .val (.int p0_2), .val (.int p0_3), .val (.int (2 : Int32)), .val (.ref u_NAME), .val (.int zt), .val (.int zs), .val (.int zc1), .val (.int zc2), .val (.int zc3), .val (.int zd1), .val (.int zd2), .val (.int zd3), .val (.ref x3_285), .unset, .unset, .unset] [(.int zx2), (.int zx1), (.int zs)])) _
      refine XS.i2c X285.here hx rfl (hb hby at_167) rfl ?_
      exact k
    rw [show zx2.toUInt32.toUInt16.toUInt32.toInt32 = zx2 from own_i2c _ hr_zx2] at k310
    have k311 : ∀ t, Steps p.tables e below (T285.setTop (mkF m 173 #[.val (.int p0_0), .val (.int p0_1), .val (.int p0_2), .val (.int p0_3), .val (.int (2 : Int32)), .val (.ref u_NAME), .val (.int zt), .val (.int zs), .val (.int zc1), .val (.int zc2), .val (.int zc3), .val (.int zd1), .val (.int zd2), .val (.int zd3), .val (.ref x3_285), .unset, .unset, .unset] [(.int (zc3 ^^^ zd3)), (.int zx2), (.int zx1), (.int zs)])) t → Steps p.tables e below (s₁.setTop (entryFrame m #[(.int p0_0), (.int p0_1), (.int p0_2), (.int p0_3)] maxLocals)) t := by
      intro t k
      refine k310 t ?_
      show Steps p.tables e below (T285.setTop (mkF m 168 #[.val (.int p0_0), .val (.int p0_1), .val (.int p0_2), .val (.int p0_3), .val (.int (2 : Int32)), .val (.ref u_NAME), .val (.int zt), .val (.int zs), .val (.int zc1), .val (.int zc2), .val (.int zc3), .val (.int zd1), .val (.int zd2), .val (.int zd3), .val (.ref x3_285), .unset, .unset, .unset] [(.int zx2), (.int zx1), (.int zs)])) _
      refine XS.iload X285.here hx rfl (hb hby at_168) rfl ?_
      show Steps p.tables e below (T285.setTop (mkF m 170 #[.val (.int p0_0), .val (.int p0_1), .val (.int p0_2), .val (.int p0_3), .val (.int (2 : Int32)), .val (.ref u_NAME), .val (.int zt), .val (.int zs), .val (.int zc1), .val (.int zc2), .val (.int zc3), .val (.int zd1), .val (.int zd2), .val (.int zd3), .val (.ref x3_285), .unset, .unset, .unset] [(.int zc3), (.int zx2), (.int zx1), (.int zs)])) _
      refine XS.iload X285.here hx rfl (hb hby at_170) rfl ?_
      show Steps p.tables e below (T285.setTop (mkF m 172 #[.val (.int p0_0), .val (.int p0_1), .val (.int p0_2), .val (.int p0_3), .val (.int (2 : Int32)), .val (.ref u_NAME), .val (.int zt), .val (.int zs), .val (.int zc1), .val (.int zc2), .val (.int zc3), .val (.int zd1), .val (.int zd2), .val (.int zd3), .val (.ref x3_285), .unset, .unset, .unset] [(.int zd3), (.int zc3), (.int zx2), (.int zx1), (.int zs)])) _
      refine XS.ixor X285.here hx rfl (hb hby at_172) rfl ?_
      exact k
    obtain ⟨zx3, hzx3⟩ : ∃ z, z = (zc3 ^^^ zd3) := ⟨_, rfl⟩
    rw [← hzx3] at k311
    have hr_zx3 : ¬ (zx3 < (0 : Int32)) ∧ ¬ ((255 : Int32) < zx3) := by rw [hzx3]; exact own_xorr _ _ hr_zc3 hr_zd3
    have k312 : ∀ t, Steps p.tables e below (T285.setTop (mkF m 174 #[.val (.int p0_0), .val (.int p0_1), .val (.int p0_2), .val (.int p0_3), .val (.int (2 : Int32)), .val (.ref u_NAME), .val (.int zt), .val (.int zs), .val (.int zc1), .val (.int zc2), .val (.int zc3), .val (.int zd1), .val (.int zd2), .val (.int zd3), .val (.ref x3_285), .unset, .unset, .unset] [(.int zx3.toUInt32.toUInt16.toUInt32.toInt32), (.int zx2), (.int zx1), (.int zs)])) t → Steps p.tables e below (s₁.setTop (entryFrame m #[(.int p0_0), (.int p0_1), (.int p0_2), (.int p0_3)] maxLocals)) t := by
      intro t k
      refine k311 t ?_
      show Steps p.tables e below (T285.setTop (mkF m 173 #[.val (.int p0_0), .val (.int p0_1), .val (.int p0_2), .val (.int p0_3), .val (.int (2 : Int32)), .val (.ref u_NAME), .val (.int zt), .val (.int zs), .val (.int zc1), .val (.int zc2), .val (.int zc3), .val (.int zd1), .val (.int zd2), .val (.int zd3), .val (.ref x3_285), .unset, .unset, .unset] [(.int zx3), (.int zx2), (.int zx1), (.int zs)])) _
      refine XS.i2c X285.here hx rfl (hb hby at_173) rfl ?_
      exact k
    rw [show zx3.toUInt32.toUInt16.toUInt32.toInt32 = zx3 from own_i2c _ hr_zx3] at k312
    obtain ⟨_, _, ⟨T313, L313, k313, n313⟩, -, X313, hS2, hg2, ⟨Lc313, hQ313, l313, y313, z313, hC313⟩, st313⟩ := callSS X285 hx (y := (⟨"com/example/oyster/oyster/engine/TokenIsSymbolPinLaw", "make", "(ICCC)Ljava/lang/String;"⟩ : MethodName)) hown (mvT hZ (hw _ (List.mem_of_getElem? (i := 4) rfl))) (mvT hZ (hw _ (List.mem_of_getElem? (i := 5) rfl))) (mvT hZ (hw _ (List.mem_of_getElem? (i := 6) rfl))) (mvT hZ (hw _ (List.mem_of_getElem? (i := 7) rfl))) (by decide) (backOfSH (W := 0) (rm3 l Z a0 hw [] hEL wS zs zx1 zx2 zx3 cs T285.heap n0 Zs285 F306 hcs hr_zx1.1 hr_zx1.2 hr_zx2.1 hr_zx2.2 hr_zx3.1 hr_zx3.2) hZ (hw _ (List.mem_of_getElem? (i := 7) rfl)) (hw _ (List.mem_of_getElem? (i := 6) rfl)) (by decide) (by decide) hEL hCR.1) (g := (mkF m 174 #[.val (.int p0_0), .val (.int p0_1), .val (.int p0_2), .val (.int p0_3), .val (.int (2 : Int32)), .val (.ref u_NAME), .val (.int zt), .val (.int zs), .val (.int zc1), .val (.int zc2), .val (.int zc3), .val (.int zd1), .val (.int zd2), .val (.int zd3), .val (.ref x3_285), .unset, .unset, .unset] [(.int zx3), (.int zx2), (.int zx1), (.int zs)])) rfl (by rw [hml]; rfl) (argsL := [(.int zs), (.int zx1), (.int zx2), (.int zx3)]) (rest := []) (lenOf pd_4 rfl) rfl (by show 2 * 0 + _ ≤ _; exact Nat.le_of_eq rfl) (hb hby at_174) (fun _ _ => ⟨rfl, rfl, (by decide : 6 + 6 ≤ _), (by decide : 12 + 12 ≤ _)⟩)
    dsimp only [Pt.U, Pt.locs, Pt.cells, Pt.slots] at X313 hS2 hg2 hC313 l313 y313 z313 st313 hQ313
    subst l313 y313 z313
    obtain ⟨X313, hS, hZ, hown⟩ := rebS hS hk X313 hS2 hg2 hZ hown
    have hk := Nat.le_refl T313.heap.size
    have hCR := hCR.trans hC313
    obtain ⟨x3_313, d3_313, kv3_313, rfl, N313q, Kc313, ggx3_313, szx3_313, G313_0, G313_1, G313_2, G313_3⟩ := hQ313
    have ne314 : u_NUMBER ≠ x3_313 := Nat.ne_of_lt (Nat.lt_of_lt_of_le F292.lt szx3_313)
    have ne315 : u_SYMBOL ≠ x3_313 := Nat.ne_of_lt (Nat.lt_of_lt_of_le F294.lt szx3_313)
    have ne316 : u_NAME ≠ x3_313 := Nat.ne_of_lt (Nat.lt_of_lt_of_le F298.lt szx3_313)
    have ne317 : u_END ≠ x3_313 := Nat.ne_of_lt (Nat.lt_of_lt_of_le F301.lt szx3_313)
    have ne318 : u_STRING ≠ x3_313 := Nat.ne_of_lt (Nat.lt_of_lt_of_le F304.lt szx3_313)
    have ne319 : x3_285 ≠ x3_313 := Nat.ne_of_lt (Nat.lt_of_lt_of_le G285_0.lt szx3_313)
    have ne320 : d3_285 ≠ x3_313 := Nat.ne_of_lt (Nat.lt_of_lt_of_le G285_3.lt szx3_313)
    have Zs313 : n0 ≤ T313.heap.size := Nat.le_trans Zs285 Kc313.1
    have F321 : Sta Z T313.heap "com/example/oyster/oyster/engine/Tokens$Kind" "NUMBER" "Lcom/example/oyster/oyster/engine/Tokens$Kind;" (.ref u_NUMBER) := own_stakeep F291 Kc313 all0
    have F322 : Exa Z T313.heap u_NUMBER "com/example/oyster/oyster/engine/Tokens$Kind" := F292.keep Kc313
    have F323 : Sta Z T313.heap "com/example/oyster/oyster/engine/Tokens$Kind" "SYMBOL" "Lcom/example/oyster/oyster/engine/Tokens$Kind;" (.ref u_SYMBOL) := own_stakeep F293 Kc313 all0
    have F324 : Exa Z T313.heap u_SYMBOL "com/example/oyster/oyster/engine/Tokens$Kind" := F294.keep Kc313
    have F325 : Fld Z T313.heap u_NUMBER "java/lang/Enum" "ordinal" "I" (.int (0 : Int32)) := F295.keep Kc313 nin0
    have F326 : Fld Z T313.heap u_SYMBOL "java/lang/Enum" "ordinal" "I" (.int (3 : Int32)) := F296.keep Kc313 nin0
    have F327 : Sta Z T313.heap "com/example/oyster/oyster/engine/Tokens$Kind" "NAME" "Lcom/example/oyster/oyster/engine/Tokens$Kind;" (.ref u_NAME) := own_stakeep F297 Kc313 all0
    have F328 : Exa Z T313.heap u_NAME "com/example/oyster/oyster/engine/Tokens$Kind" := F298.keep Kc313
    have F329 : Fld Z T313.heap u_NAME "java/lang/Enum" "ordinal" "I" (.int (2 : Int32)) := F299.keep Kc313 nin0
    have F330 : Sta Z T313.heap "com/example/oyster/oyster/engine/Tokens$Kind" "END" "Lcom/example/oyster/oyster/engine/Tokens$Kind;" (.ref u_END) := own_stakeep F300 Kc313 all0
    have F331 : Exa Z T313.heap u_END "com/example/oyster/oyster/engine/Tokens$Kind" := F301.keep Kc313
    have F332 : Fld Z T313.heap u_END "java/lang/Enum" "ordinal" "I" (.int (4 : Int32)) := F302.keep Kc313 nin0
    have F333 : Sta Z T313.heap "com/example/oyster/oyster/engine/Tokens$Kind" "STRING" "Lcom/example/oyster/oyster/engine/Tokens$Kind;" (.ref u_STRING) := own_stakeep F303 Kc313 all0
    have F334 : Exa Z T313.heap u_STRING "com/example/oyster/oyster/engine/Tokens$Kind" := F304.keep Kc313
    have F335 : Fld Z T313.heap u_STRING "java/lang/Enum" "ordinal" "I" (.int (1 : Int32)) := F305.keep Kc313 nin0
    have F336 : Sta Z T313.heap "java/lang/String" "COMPACT_STRINGS" "Z" (.int cs) := own_stakeep F306 Kc313 all0
    have F337 : Exa Z T313.heap x3_285 "java/lang/String" := G285_0.keep Kc313
    have F338 : Fld Z T313.heap x3_285 "java/lang/String" "value" "[B" (.ref d3_285) := G285_1.keep Kc313 nin0
    have F339 : Fld Z T313.heap x3_285 "java/lang/String" "coder" "B" (.int (0 : Int32)) := G285_2.keep Kc313 nin0
    have F340 : Arv Z T313.heap d3_285 kv3_285 .byte (Int32.ofNat (own_mk zt zc1 zc2 zc3).length) (List.map Value.int (List.map (fun c => c.toInt8.toInt32) (own_mk zt zc1 zc2 zc3))) (.int (0 : Int32)) := G285_3.keep Kc313 nin0
    have N313 := Fr.app N285 N313q
    obtain ⟨b341, g341⟩ : ∃ z, z = T313.heap.size := ⟨_, rfl⟩
    obtain ⟨T341, h341, X341, e341, E341, A341, D341, -, st341⟩ := newO X313 hx hZ hown (hw _ (List.mem_of_getElem? (i := 38) rfl)) (hw _ (List.mem_of_getElem? (i := 39) rfl)) (hw _ (List.mem_of_getElem? (i := 40) rfl)) rfl (g := (mkF m 179 #[.val (.int p0_0), .val (.int p0_1), .val (.int p0_2), .val (.int p0_3), .val (.int (2 : Int32)), .val (.ref u_NAME), .val (.int zt), .val (.int zs), .val (.int zc1), .val (.int zc2), .val (.int zc3), .val (.int zd1), .val (.int zd2), .val (.int zd3), .val (.ref x3_285), .val (.ref x3_313), .unset, .unset] [])) rfl (hb hby at_179) (by decide) (by decide)
    rw [← g341] at A341 D341 st341
    have ne342 : u_NUMBER ≠ b341 := Nat.ne_of_lt (Nat.lt_of_lt_of_le F322.lt (Nat.le_of_eq g341.symm))
    have ne343 : u_SYMBOL ≠ b341 := Nat.ne_of_lt (Nat.lt_of_lt_of_le F324.lt (Nat.le_of_eq g341.symm))
    have ne344 : u_NAME ≠ b341 := Nat.ne_of_lt (Nat.lt_of_lt_of_le F328.lt (Nat.le_of_eq g341.symm))
    have ne345 : u_END ≠ b341 := Nat.ne_of_lt (Nat.lt_of_lt_of_le F331.lt (Nat.le_of_eq g341.symm))
    have ne346 : u_STRING ≠ b341 := Nat.ne_of_lt (Nat.lt_of_lt_of_le F334.lt (Nat.le_of_eq g341.symm))
    have ne347 : x3_285 ≠ b341 := Nat.ne_of_lt (Nat.lt_of_lt_of_le F337.lt (Nat.le_of_eq g341.symm))
    have ne348 : d3_285 ≠ b341 := Nat.ne_of_lt (Nat.lt_of_lt_of_le F340.lt (Nat.le_of_eq g341.symm))
    have ne349 : x3_313 ≠ b341 := Nat.ne_of_lt (Nat.lt_of_lt_of_le G313_0.lt (Nat.le_of_eq g341.symm))
    have ne350 : d3_313 ≠ b341 := Nat.ne_of_lt (Nat.lt_of_lt_of_le G313_3.lt (Nat.le_of_eq g341.symm))
    have sfn341 := Safe.new (Z := Z) (EL := consts_1) (vm := T313.vm) (Nat.le_of_eq g341.symm)
    have sf351 := Safe.ext E341 hCR.1 sfn341
    have hCR := hCR.trans (CHr.ext E341 hCR.1)
    have hk := Nat.le_trans hk E341.1
    have gg341 : n0 ≤ b341 := Nat.le_trans Zs313 (Nat.le_of_eq g341.symm)
    have Zs341 : n0 ≤ h341.size := Nat.le_trans Zs313 E341.1
    have F352 : Sta Z h341 "com/example/oyster/oyster/engine/Tokens$Kind" "NUMBER" "Lcom/example/oyster/oyster/engine/Tokens$Kind;" (.ref u_NUMBER) := F321.ext E341
    have F353 : Exa Z h341 u_NUMBER "com/example/oyster/oyster/engine/Tokens$Kind" := F322.ext E341
    have F354 : Sta Z h341 "com/example/oyster/oyster/engine/Tokens$Kind" "SYMBOL" "Lcom/example/oyster/oyster/engine/Tokens$Kind;" (.ref u_SYMBOL) := F323.ext E341
    have F355 : Exa Z h341 u_SYMBOL "com/example/oyster/oyster/engine/Tokens$Kind" := F324.ext E341
    have F356 : Fld Z h341 u_NUMBER "java/lang/Enum" "ordinal" "I" (.int (0 : Int32)) := F325.ext E341
    have F357 : Fld Z h341 u_SYMBOL "java/lang/Enum" "ordinal" "I" (.int (3 : Int32)) := F326.ext E341
    have F358 : Sta Z h341 "com/example/oyster/oyster/engine/Tokens$Kind" "NAME" "Lcom/example/oyster/oyster/engine/Tokens$Kind;" (.ref u_NAME) := F327.ext E341
    have F359 : Exa Z h341 u_NAME "com/example/oyster/oyster/engine/Tokens$Kind" := F328.ext E341
    have F360 : Fld Z h341 u_NAME "java/lang/Enum" "ordinal" "I" (.int (2 : Int32)) := F329.ext E341
    have F361 : Sta Z h341 "com/example/oyster/oyster/engine/Tokens$Kind" "END" "Lcom/example/oyster/oyster/engine/Tokens$Kind;" (.ref u_END) := F330.ext E341
    have F362 : Exa Z h341 u_END "com/example/oyster/oyster/engine/Tokens$Kind" := F331.ext E341
    have F363 : Fld Z h341 u_END "java/lang/Enum" "ordinal" "I" (.int (4 : Int32)) := F332.ext E341
    have F364 : Sta Z h341 "com/example/oyster/oyster/engine/Tokens$Kind" "STRING" "Lcom/example/oyster/oyster/engine/Tokens$Kind;" (.ref u_STRING) := F333.ext E341
    have F365 : Exa Z h341 u_STRING "com/example/oyster/oyster/engine/Tokens$Kind" := F334.ext E341
    have F366 : Fld Z h341 u_STRING "java/lang/Enum" "ordinal" "I" (.int (1 : Int32)) := F335.ext E341
    have F367 : Sta Z h341 "java/lang/String" "COMPACT_STRINGS" "Z" (.int cs) := F336.ext E341
    have F368 : Exa Z h341 x3_285 "java/lang/String" := F337.ext E341
    have F369 : Fld Z h341 x3_285 "java/lang/String" "value" "[B" (.ref d3_285) := F338.ext E341
    have F370 : Fld Z h341 x3_285 "java/lang/String" "coder" "B" (.int (0 : Int32)) := F339.ext E341
    have F371 : Arv Z h341 d3_285 kv3_285 .byte (Int32.ofNat (own_mk zt zc1 zc2 zc3).length) (List.map Value.int (List.map (fun c => c.toInt8.toInt32) (own_mk zt zc1 zc2 zc3))) (.int (0 : Int32)) := F340.ext E341
    have F372 : Exa Z h341 x3_313 "java/lang/String" := G313_0.ext E341
    have F373 : Fld Z h341 x3_313 "java/lang/String" "value" "[B" (.ref d3_313) := G313_1.ext E341
    have F374 : Fld Z h341 x3_313 "java/lang/String" "coder" "B" (.int (0 : Int32)) := G313_2.ext E341
    have F375 : Arv Z h341 d3_313 kv3_313 .byte (Int32.ofNat (own_mk zs zx1 zx2 zx3).length) (List.map Value.int (List.map (fun c => c.toInt8.toInt32) (own_mk zs zx1 zx2 zx3))) (.int (0 : Int32)) := G313_3.ext E341
    have F376 : Fld Z h341 b341 "com/example/oyster/oyster/engine/Tokens$Token" "kind" "Lcom/example/oyster/oyster/engine/Tokens$Kind;" .null := D341 (Or.inr (hw _ (List.mem_of_getElem? (i := 51) rfl))) (ty := (.object "com/example/oyster/oyster/engine/Tokens$Kind")) (by decide)
    have F377 : Fld Z h341 b341 "com/example/oyster/oyster/engine/Tokens$Token" "text" "Ljava/lang/String;" .null := D341 (Or.inr (hw _ (List.mem_of_getElem? (i := 53) rfl))) (ty := (.object "java/lang/String")) (by decide)
    have F378 : Fld Z h341 b341 "com/example/oyster/oyster/engine/Tokens$Token" "column" "I" (.int (0 : Int32)) := D341 (Or.inr (hw _ (List.mem_of_getElem? (i := 55) rfl))) (ty := .int) (by decide)
    obtain ⟨_, _, ⟨T379, L379, k379, n379⟩, -, X379, ⟨Lc379, hQ379, l379, y379, z379⟩, st379⟩ := X341.specialBack hx (y := (⟨"com/example/oyster/oyster/engine/Tokens$Token", "<init>", "(Lcom/example/oyster/oyster/engine/Tokens$Kind;Ljava/lang/String;I)V"⟩ : MethodName)) rfl hown (mvT hZ (hw _ (List.mem_of_getElem? (i := 41) rfl))) (mvT hZ (hw _ (List.mem_of_getElem? (i := 42) rfl))) (mvT hZ (hw _ (List.mem_of_getElem? (i := 43) rfl))) (by decide) (backOf (W := 1) (rm6 l Z a0 hw [] b341 u_NAME x3_285 p0_3 h341 n0 Zs341 A341 F376 F377 F378 gg341) hZ (hw _ (List.mem_of_getElem? (i := 43) rfl)) (hw _ (List.mem_of_getElem? (i := 40) rfl)) (by decide) (by decide)) (g := (mkF m 188 #[.val (.int p0_0), .val (.int p0_1), .val (.int p0_2), .val (.int p0_3), .val (.int (2 : Int32)), .val (.ref u_NAME), .val (.int zt), .val (.int zs), .val (.int zc1), .val (.int zc2), .val (.int zc3), .val (.int zd1), .val (.int zd2), .val (.int zd3), .val (.ref x3_285), .val (.ref x3_313), .unset, .unset] [(.int p0_3), (.ref x3_285), (.ref u_NAME), (.ref b341), (.ref b341)])) rfl (by rw [hml]; rfl) (Steps.refl _) (a := b341) (argsL := [(.ref u_NAME), (.ref x3_285), (.int p0_3)]) (rest := [(.ref b341)]) (lenOf pd_5 rfl) rfl (by show 2 * 0 + _ ≤ _; exact Nat.le_of_eq rfl) (hb hby at_188) (fun _ _ => ⟨rfl, e341, (by decide : 13 + 0 ≤ _), (by decide : 27 + 0 ≤ _)⟩)
    dsimp only [Pt.U, Pt.locs, Pt.cells, Pt.slots] at X379 l379 y379 z379 st379 hQ379
    subst l379 y379 z379
    obtain ⟨rfl, N379q, Kc379, G379_0, G379_1, G379_2⟩ := hQ379
    have Zs379 : n0 ≤ T379.heap.size := Nat.le_trans Zs341 Kc379.1
    have sf380 := Safe.keep Kc379 (sfS (Safe.exa hZ.alike A341 (by decide) (by decide)) sf0) hCR.1 sf351
    have hCR := hCR.trans (CHr.keep Kc379 (sfS (Safe.exa hZ.alike A341 (by decide) (by decide)) sf0) hCR.1)
    have hk := Nat.le_trans hk Kc379.1
    have F381 : Sta Z T379.heap "com/example/oyster/oyster/engine/Tokens$Kind" "NUMBER" "Lcom/example/oyster/oyster/engine/Tokens$Kind;" (.ref u_NUMBER) := own_stakeep F352 Kc379 (allS (own_nsE A341) all0)
    have F382 : Exa Z T379.heap u_NUMBER "com/example/oyster/oyster/engine/Tokens$Kind" := F353.keep Kc379
    have F383 : Sta Z T379.heap "com/example/oyster/oyster/engine/Tokens$Kind" "SYMBOL" "Lcom/example/oyster/oyster/engine/Tokens$Kind;" (.ref u_SYMBOL) := own_stakeep F354 Kc379 (allS (own_nsE A341) all0)
    have F384 : Exa Z T379.heap u_SYMBOL "com/example/oyster/oyster/engine/Tokens$Kind" := F355.keep Kc379
    have F385 : Fld Z T379.heap u_NUMBER "java/lang/Enum" "ordinal" "I" (.int (0 : Int32)) := F356.keep Kc379 (ninS ne342 nin0)
    have F386 : Fld Z T379.heap u_SYMBOL "java/lang/Enum" "ordinal" "I" (.int (3 : Int32)) := F357.keep Kc379 (ninS ne343 nin0)
    have F387 : Sta Z T379.heap "com/example/oyster/oyster/engine/Tokens$Kind" "NAME" "Lcom/example/oyster/oyster/engine/Tokens$Kind;" (.ref u_NAME) := own_stakeep F358 Kc379 (allS (own_nsE A341) all0)
    have F388 : Exa Z T379.heap u_NAME "com/example/oyster/oyster/engine/Tokens$Kind" := F359.keep Kc379
    have F389 : Fld Z T379.heap u_NAME "java/lang/Enum" "ordinal" "I" (.int (2 : Int32)) := F360.keep Kc379 (ninS ne344 nin0)
    have F390 : Sta Z T379.heap "com/example/oyster/oyster/engine/Tokens$Kind" "END" "Lcom/example/oyster/oyster/engine/Tokens$Kind;" (.ref u_END) := own_stakeep F361 Kc379 (allS (own_nsE A341) all0)
    have F391 : Exa Z T379.heap u_END "com/example/oyster/oyster/engine/Tokens$Kind" := F362.keep Kc379
    have F392 : Fld Z T379.heap u_END "java/lang/Enum" "ordinal" "I" (.int (4 : Int32)) := F363.keep Kc379 (ninS ne345 nin0)
    have F393 : Sta Z T379.heap "com/example/oyster/oyster/engine/Tokens$Kind" "STRING" "Lcom/example/oyster/oyster/engine/Tokens$Kind;" (.ref u_STRING) := own_stakeep F364 Kc379 (allS (own_nsE A341) all0)
    have F394 : Exa Z T379.heap u_STRING "com/example/oyster/oyster/engine/Tokens$Kind" := F365.keep Kc379
    have F395 : Fld Z T379.heap u_STRING "java/lang/Enum" "ordinal" "I" (.int (1 : Int32)) := F366.keep Kc379 (ninS ne346 nin0)
    have F396 : Sta Z T379.heap "java/lang/String" "COMPACT_STRINGS" "Z" (.int cs) := own_stakeep F367 Kc379 (allS (own_nsE A341) all0)
    have F397 : Exa Z T379.heap x3_285 "java/lang/String" := F368.keep Kc379
    have F398 : Fld Z T379.heap x3_285 "java/lang/String" "value" "[B" (.ref d3_285) := F369.keep Kc379 (ninS ne347 nin0)
    have F399 : Fld Z T379.heap x3_285 "java/lang/String" "coder" "B" (.int (0 : Int32)) := F370.keep Kc379 (ninS ne347 nin0)
    have F400 : Arv Z T379.heap d3_285 kv3_285 .byte (Int32.ofNat (own_mk zt zc1 zc2 zc3).length) (List.map Value.int (List.map (fun c => c.toInt8.toInt32) (own_mk zt zc1 zc2 zc3))) (.int (0 : Int32)) := F371.keep Kc379 (ninS ne348 nin0)
    have F401 : Exa Z T379.heap x3_313 "java/lang/String" := F372.keep Kc379
    have F402 : Fld Z T379.heap x3_313 "java/lang/String" "value" "[B" (.ref d3_313) := F373.keep Kc379 (ninS ne349 nin0)
    have F403 : Fld Z T379.heap x3_313 "java/lang/String" "coder" "B" (.int (0 : Int32)) := F374.keep Kc379 (ninS ne349 nin0)
    have F404 : Arv Z T379.heap d3_313 kv3_313 .byte (Int32.ofNat (own_mk zs zx1 zx2 zx3).length) (List.map Value.int (List.map (fun c => c.toInt8.toInt32) (own_mk zs zx1 zx2 zx3))) (.int (0 : Int32)) := F375.keep Kc379 (ninS ne350 nin0)
    have N379 := Fr.app N313 N379q
    obtain ⟨cq406, kq406, q406a, q406b, q406c⟩ := isOf hZ rfl G379_0
    obtain ⟨_, _, ⟨T406, L406, k406, n406⟩, -, X406, ⟨Lc406, hQ406, l406, y406, z406⟩, st406⟩ := X379.virtualBack hx (y := (⟨"com/example/oyster/oyster/engine/Tokens$Token", "isSymbol", "(Ljava/lang/String;)Z"⟩ : MethodName)) (z := (⟨"com/example/oyster/oyster/engine/Tokens$Token", "isSymbol", "(Ljava/lang/String;)Z"⟩ : MethodName)) hown (mvT hZ (hw _ (List.mem_of_getElem? (i := 56) rfl))) (mvT hZ (hw _ (List.mem_of_getElem? (i := 57) rfl))) (notFace_of_selects (args := #[]) (mvT hZ (hw _ (List.mem_of_getElem? (i := 59) rfl)))) (mvT hZ (hw _ (List.mem_of_getElem? (i := 59) rfl))) (mvT hZ (hw _ (List.mem_of_getElem? (i := 58) rfl))) (by decide) (backOf (W := 0) (rm7 l Z a0 hw [] b341 x3_313 u_SYMBOL u_NAME T379.heap n0 Zs379 G379_1 F383 ne_NAME) hZ (hw _ (List.mem_of_getElem? (i := 60) rfl)) (hw _ (List.mem_of_getElem? (i := 40) rfl)) (by decide) (by decide)) q406a q406c (g := (mkF m 250 #[.val (.int p0_0), .val (.int p0_1), .val (.int p0_2), .val (.int p0_3), .val (.int (2 : Int32)), .val (.ref u_NAME), .val (.int zt), .val (.int zs), .val (.int zc1), .val (.int zc2), .val (.int zc3), .val (.int zd1), .val (.int zd2), .val (.int zd3), .val (.ref x3_285), .val (.ref x3_313), .val (.ref b341), .val (.int (0 : Int32))] [(.ref x3_313), (.ref b341)])) rfl (by rw [hml]; rfl) (Steps.refl _) (argsL := [(.ref x3_313)]) (rest := []) (lenOf pd_6 rfl) rfl (by show 2 * 0 + _ ≤ _; exact Nat.le_of_eq rfl) (hb hby at_250) (fun _ _ => ⟨rfl, rfl, (by decide : 13 + 0 ≤ _), (by decide : 27 + 0 ≤ _)⟩)
    dsimp only [Pt.U, Pt.locs, Pt.cells, Pt.slots] at X406 l406 y406 z406 st406 hQ406
    subst l406 y406 z406
    obtain ⟨rfl, N406q, eh406⟩ := hQ406
    have N406 := Fr.app N379 N406q
    have k407 : ∀ t, Steps p.tables e below (T406.setTop (mkF m 263 #[.val (.int p0_0), .val (.int p0_1), .val (.int p0_2), .val (.int p0_3), .val (.int (2 : Int32)), .val (.ref u_NAME), .val (.int zt), .val (.int zs), .val (.int zc1), .val (.int zc2), .val (.int zc3), .val (.int zd1), .val (.int zd2), .val (.int zd3), .val (.ref x3_285), .val (.ref x3_313), .val (.ref b341), .val (.int (0 : Int32))] [(.int (1 : Int32))])) t → Steps p.tables e below (s₁.setTop (entryFrame m #[(.int p0_0), (.int p0_1), (.int p0_2), (.int p0_3)] maxLocals)) t := by
      intro t k
      refine k312 t ?_
      show Steps p.tables e below (T285.setTop (mkF m 174 #[.val (.int p0_0), .val (.int p0_1), .val (.int p0_2), .val (.int p0_3), .val (.int (2 : Int32)), .val (.ref u_NAME), .val (.int zt), .val (.int zs), .val (.int zc1), .val (.int zc2), .val (.int zc3), .val (.int zd1), .val (.int zd2), .val (.int zd3), .val (.ref x3_285), .unset, .unset, .unset] [(.int zx3), (.int zx2), (.int zx1), (.int zs)])) _
      refine st313.trans ?_
      show Steps p.tables e below (T313.setTop (mkF m 177 #[.val (.int p0_0), .val (.int p0_1), .val (.int p0_2), .val (.int p0_3), .val (.int (2 : Int32)), .val (.ref u_NAME), .val (.int zt), .val (.int zs), .val (.int zc1), .val (.int zc2), .val (.int zc3), .val (.int zd1), .val (.int zd2), .val (.int zd3), .val (.ref x3_285), .unset, .unset, .unset] [(.ref x3_313)])) _
      refine XS.astore X313.here hx rfl (hb hby at_177) rfl rfl (l' := #[.val (.int p0_0), .val (.int p0_1), .val (.int p0_2), .val (.int p0_3), .val (.int (2 : Int32)), .val (.ref u_NAME), .val (.int zt), .val (.int zs), .val (.int zc1), .val (.int zc2), .val (.int zc3), .val (.int zd1), .val (.int zd2), .val (.int zd3), .val (.ref x3_285), .val (.ref x3_313), .unset, .unset]) rfl ?_
      show Steps p.tables e below (T313.setTop (mkF m 179 #[.val (.int p0_0), .val (.int p0_1), .val (.int p0_2), .val (.int p0_3), .val (.int (2 : Int32)), .val (.ref u_NAME), .val (.int zt), .val (.int zs), .val (.int zc1), .val (.int zc2), .val (.int zc3), .val (.int zd1), .val (.int zd2), .val (.int zd3), .val (.ref x3_285), .val (.ref x3_313), .unset, .unset] [])) _
      refine st341 _ ?_
      show Steps p.tables e below (T341.setTop (mkF m 182 #[.val (.int p0_0), .val (.int p0_1), .val (.int p0_2), .val (.int p0_3), .val (.int (2 : Int32)), .val (.ref u_NAME), .val (.int zt), .val (.int zs), .val (.int zc1), .val (.int zc2), .val (.int zc3), .val (.int zd1), .val (.int zd2), .val (.int zd3), .val (.ref x3_285), .val (.ref x3_313), .unset, .unset] [(.ref b341)])) _
      refine XS.dup X341.here hx rfl (hb hby at_182) rfl rfl ?_
      show Steps p.tables e below (T341.setTop (mkF m 183 #[.val (.int p0_0), .val (.int p0_1), .val (.int p0_2), .val (.int p0_3), .val (.int (2 : Int32)), .val (.ref u_NAME), .val (.int zt), .val (.int zs), .val (.int zc1), .val (.int zc2), .val (.int zc3), .val (.int zd1), .val (.int zd2), .val (.int zd3), .val (.ref x3_285), .val (.ref x3_313), .unset, .unset] [(.ref b341), (.ref b341)])) _
      refine XS.aload X341.here hx rfl (hb hby at_183) rfl rfl ?_
      show Steps p.tables e below (T341.setTop (mkF m 185 #[.val (.int p0_0), .val (.int p0_1), .val (.int p0_2), .val (.int p0_3), .val (.int (2 : Int32)), .val (.ref u_NAME), .val (.int zt), .val (.int zs), .val (.int zc1), .val (.int zc2), .val (.int zc3), .val (.int zd1), .val (.int zd2), .val (.int zd3), .val (.ref x3_285), .val (.ref x3_313), .unset, .unset] [(.ref u_NAME), (.ref b341), (.ref b341)])) _
      refine XS.aload X341.here hx rfl (hb hby at_185) rfl rfl ?_
      show Steps p.tables e below (T341.setTop (mkF m 187 #[.val (.int p0_0), .val (.int p0_1), .val (.int p0_2), .val (.int p0_3), .val (.int (2 : Int32)), .val (.ref u_NAME), .val (.int zt), .val (.int zs), .val (.int zc1), .val (.int zc2), .val (.int zc3), .val (.int zd1), .val (.int zd2), .val (.int zd3), .val (.ref x3_285), .val (.ref x3_313), .unset, .unset] [(.ref x3_285), (.ref u_NAME), (.ref b341), (.ref b341)])) _
      refine XS.iloadN X341.here hx rfl (hb hby at_187) rfl ?_
      show Steps p.tables e below (T341.setTop (mkF m 188 #[.val (.int p0_0), .val (.int p0_1), .val (.int p0_2), .val (.int p0_3), .val (.int (2 : Int32)), .val (.ref u_NAME), .val (.int zt), .val (.int zs), .val (.int zc1), .val (.int zc2), .val (.int zc3), .val (.int zd1), .val (.int zd2), .val (.int zd3), .val (.ref x3_285), .val (.ref x3_313), .unset, .unset] [(.int p0_3), (.ref x3_285), (.ref u_NAME), (.ref b341), (.ref b341)])) _
      refine st379.trans ?_
      show Steps p.tables e below (T379.setTop (mkF m 191 #[.val (.int p0_0), .val (.int p0_1), .val (.int p0_2), .val (.int p0_3), .val (.int (2 : Int32)), .val (.ref u_NAME), .val (.int zt), .val (.int zs), .val (.int zc1), .val (.int zc2), .val (.int zc3), .val (.int zd1), .val (.int zd2), .val (.int zd3), .val (.ref x3_285), .val (.ref x3_313), .unset, .unset] [(.ref b341)])) _
      refine XS.astore X379.here hx rfl (hb hby at_191) rfl rfl (l' := #[.val (.int p0_0), .val (.int p0_1), .val (.int p0_2), .val (.int p0_3), .val (.int (2 : Int32)), .val (.ref u_NAME), .val (.int zt), .val (.int zs), .val (.int zc1), .val (.int zc2), .val (.int zc3), .val (.int zd1), .val (.int zd2), .val (.int zd3), .val (.ref x3_285), .val (.ref x3_313), .val (.ref b341), .unset]) rfl ?_
      show Steps p.tables e below (T379.setTop (mkF m 193 #[.val (.int p0_0), .val (.int p0_1), .val (.int p0_2), .val (.int p0_3), .val (.int (2 : Int32)), .val (.ref u_NAME), .val (.int zt), .val (.int zs), .val (.int zc1), .val (.int zc2), .val (.int zc3), .val (.int zd1), .val (.int zd2), .val (.int zd3), .val (.ref x3_285), .val (.ref x3_313), .val (.ref b341), .unset] [])) _
      refine XS.iload X379.here hx rfl (hb hby at_193) rfl ?_
      show Steps p.tables e below (T379.setTop (mkF m 195 #[.val (.int p0_0), .val (.int p0_1), .val (.int p0_2), .val (.int p0_3), .val (.int (2 : Int32)), .val (.ref u_NAME), .val (.int zt), .val (.int zs), .val (.int zc1), .val (.int zc2), .val (.int zc3), .val (.int zd1), .val (.int zd2), .val (.int zd3), .val (.ref x3_285), .val (.ref x3_313), .val (.ref b341), .unset] [(.int (2 : Int32))])) _
      refine XS.iconst X379.here hx rfl (hb hby at_195) ?_
      show Steps p.tables e below (T379.setTop (mkF m 196 #[.val (.int p0_0), .val (.int p0_1), .val (.int p0_2), .val (.int p0_3), .val (.int (2 : Int32)), .val (.ref u_NAME), .val (.int zt), .val (.int zs), .val (.int zc1), .val (.int zc2), .val (.int zc3), .val (.int zd1), .val (.int zd2), .val (.int zd3), .val (.ref x3_285), .val (.ref x3_313), .val (.ref b341), .unset] [(.int (3 : Int32)), (.int (2 : Int32))])) _
      refine XS.icmpYes X379.here hx rfl (pc0 := 196) (pc' := 243) rfl (hb hby at_196) rfl (feq (by decide : ¬ ((2 : Int32) = (3 : Int32)))).2 (by decide) (by decide) ?_
      show Steps p.tables e below (T379.setTop (mkF m 243 #[.val (.int p0_0), .val (.int p0_1), .val (.int p0_2), .val (.int p0_3), .val (.int (2 : Int32)), .val (.ref u_NAME), .val (.int zt), .val (.int zs), .val (.int zc1), .val (.int zc2), .val (.int zc3), .val (.int zd1), .val (.int zd2), .val (.int zd3), .val (.ref x3_285), .val (.ref x3_313), .val (.ref b341), .unset] [])) _
      refine XS.iconst X379.here hx rfl (hb hby at_243) ?_
      show Steps p.tables e below (T379.setTop (mkF m 244 #[.val (.int p0_0), .val (.int p0_1), .val (.int p0_2), .val (.int p0_3), .val (.int (2 : Int32)), .val (.ref u_NAME), .val (.int zt), .val (.int zs), .val (.int zc1), .val (.int zc2), .val (.int zc3), .val (.int zd1), .val (.int zd2), .val (.int zd3), .val (.ref x3_285), .val (.ref x3_313), .val (.ref b341), .unset] [(.int (0 : Int32))])) _
      refine XS.istore X379.here hx rfl (hb hby at_244) rfl (l' := #[.val (.int p0_0), .val (.int p0_1), .val (.int p0_2), .val (.int p0_3), .val (.int (2 : Int32)), .val (.ref u_NAME), .val (.int zt), .val (.int zs), .val (.int zc1), .val (.int zc2), .val (.int zc3), .val (.int zd1), .val (.int zd2), .val (.int zd3), .val (.ref x3_285), .val (.ref x3_313), .val (.ref b341), .val (.int (0 : Int32))]) rfl ?_
      show Steps p.tables e below (T379.setTop (mkF m 246 #[.val (.int p0_0), .val (.int p0_1), .val (.int p0_2), .val (.int p0_3), .val (.int (2 : Int32)), .val (.ref u_NAME), .val (.int zt), .val (.int zs), .val (.int zc1), .val (.int zc2), .val (.int zc3), .val (.int zd1), .val (.int zd2), .val (.int zd3), .val (.ref x3_285), .val (.ref x3_313), .val (.ref b341), .val (.int (0 : Int32))] [])) _
      refine XS.aload X379.here hx rfl (hb hby at_246) rfl rfl ?_
      show Steps p.tables e below (T379.setTop (mkF m 248 #[.val (.int p0_0), .val (.int p0_1), .val (.int p0_2), .val (.int p0_3), .val (.int (2 : Int32)), .val (.ref u_NAME), .val (.int zt), .val (.int zs), .val (.int zc1), .val (.int zc2), .val (.int zc3), .val (.int zd1), .val (.int zd2), .val (.int zd3), .val (.ref x3_285), .val (.ref x3_313), .val (.ref b341), .val (.int (0 : Int32))] [(.ref b341)])) _
      refine XS.aload X379.here hx rfl (hb hby at_248) rfl rfl ?_
      show Steps p.tables e below (T379.setTop (mkF m 250 #[.val (.int p0_0), .val (.int p0_1), .val (.int p0_2), .val (.int p0_3), .val (.int (2 : Int32)), .val (.ref u_NAME), .val (.int zt), .val (.int zs), .val (.int zc1), .val (.int zc2), .val (.int zc3), .val (.int zd1), .val (.int zd2), .val (.int zd3), .val (.ref x3_285), .val (.ref x3_313), .val (.ref b341), .val (.int (0 : Int32))] [(.ref x3_313), (.ref b341)])) _
      refine st406.trans ?_
      show Steps p.tables e below (T406.setTop (mkF m 253 #[.val (.int p0_0), .val (.int p0_1), .val (.int p0_2), .val (.int p0_3), .val (.int (2 : Int32)), .val (.ref u_NAME), .val (.int zt), .val (.int zs), .val (.int zc1), .val (.int zc2), .val (.int zc3), .val (.int zd1), .val (.int zd2), .val (.int zd3), .val (.ref x3_285), .val (.ref x3_313), .val (.ref b341), .val (.int (0 : Int32))] [(.int (0 : Int32))])) _
      refine XS.iload X406.here hx rfl (hb hby at_253) rfl ?_
      show Steps p.tables e below (T406.setTop (mkF m 255 #[.val (.int p0_0), .val (.int p0_1), .val (.int p0_2), .val (.int p0_3), .val (.int (2 : Int32)), .val (.ref u_NAME), .val (.int zt), .val (.int zs), .val (.int zc1), .val (.int zc2), .val (.int zc3), .val (.int zd1), .val (.int zd2), .val (.int zd3), .val (.ref x3_285), .val (.ref x3_313), .val (.ref b341), .val (.int (0 : Int32))] [(.int (0 : Int32)), (.int (0 : Int32))])) _
      refine XS.icmpNo X406.here hx rfl (hb hby at_255) rfl (teq (by decide : (0 : Int32) = (0 : Int32))).2 ?_
      show Steps p.tables e below (T406.setTop (mkF m 258 #[.val (.int p0_0), .val (.int p0_1), .val (.int p0_2), .val (.int p0_3), .val (.int (2 : Int32)), .val (.ref u_NAME), .val (.int zt), .val (.int zs), .val (.int zc1), .val (.int zc2), .val (.int zc3), .val (.int zd1), .val (.int zd2), .val (.int zd3), .val (.ref x3_285), .val (.ref x3_313), .val (.ref b341), .val (.int (0 : Int32))] [])) _
      refine XS.iconst X406.here hx rfl (hb hby at_258) ?_
      show Steps p.tables e below (T406.setTop (mkF m 259 #[.val (.int p0_0), .val (.int p0_1), .val (.int p0_2), .val (.int p0_3), .val (.int (2 : Int32)), .val (.ref u_NAME), .val (.int zt), .val (.int zs), .val (.int zc1), .val (.int zc2), .val (.int zc3), .val (.int zd1), .val (.int zd2), .val (.int zd3), .val (.ref x3_285), .val (.ref x3_313), .val (.ref b341), .val (.int (0 : Int32))] [(.int (1 : Int32))])) _
      refine XS.goto X406.here hx rfl (pc0 := 259) (pc' := 263) rfl (hb hby at_259) (by decide) (by decide) ?_
      exact k
    obtain ⟨fs, hr, hrun, hended, hE1, hE2, hE3, hE4⟩ := X406.leaveW hS (by rw [eh406]; exact hk) (v := some (.int (1 : Int32))) (fun h => by rw [Bd.returns] at h; cases h)
    have hCE := hCR.trans (CHv.at X406 hZ hEL hCR.1)
    refine ⟨_, _, k407 _ ?_, hrun, hended, _, _, rfl, ?_, (by show CHr Z consts_1 s.vm s.heap T406.vm T406.heap; rw [hh, eh406]; exact hCE), ⟨_, rfl⟩, hE2, hE3, hE4.mono (by decide) (by decide)⟩
    · exact retN X406 hx (t := .boolean) Bd.returns (by simp) (hb hby at_263) hr
    · show Q0 Z p0_0 p0_1 p0_2 p0_3 u_NUMBER u_SYMBOL u_NAME u_END u_STRING cs h0 n0 _ T406.heap _
      rw [eh406]
      exact ⟨rfl, N406⟩
  · skip
    obtain ⟨T408, X408, e408, st408⟩ := getS2 X0 hx hZ hown (host := "") (Or.inl (hw _ (List.mem_of_getElem? (i := 72) rfl))) Via.refl e0 S_SYMBOL (g := (mkF m 55 #[.val (.int p0_0), .val (.int p0_1), .val (.int p0_2), .val (.int p0_3), .val (.int (3 : Int32)), .unset, .unset, .unset, .unset, .unset, .unset, .unset, .unset, .unset, .unset, .unset, .unset, .unset] [])) rfl (hb hby at_55)
    have k409 : ∀ t, Steps p.tables e below (T408.setTop (mkF m 71 #[.val (.int p0_0), .val (.int p0_1), .val (.int p0_2), .val (.int p0_3), .val (.int (3 : Int32)), .val (.ref u_SYMBOL), .unset, .unset, .unset, .unset, .unset, .unset, .unset, .unset, .unset, .unset, .unset, .unset] [(.int (p0_1 &&& (3 : Int32)))])) t → Steps p.tables e below (s₁.setTop (entryFrame m #[(.int p0_0), (.int p0_1), (.int p0_2), (.int p0_3)] maxLocals)) t := by
      intro t k
      refine k1 t ?_
      show Steps p.tables e below (s₁.setTop (mkF m 8 #[.val (.int p0_0), .val (.int p0_1), .val (.int p0_2), .val (.int p0_3), .val (.int (3 : Int32)), .unset, .unset, .unset, .unset, .unset, .unset, .unset, .unset, .unset, .unset, .unset, .unset, .unset] [])) _
      refine XS.iload X0.here hx rfl (hb hby at_8) rfl ?_
      show Steps p.tables e below (s₁.setTop (mkF m 10 #[.val (.int p0_0), .val (.int p0_1), .val (.int p0_2), .val (.int p0_3), .val (.int (3 : Int32)), .unset, .unset, .unset, .unset, .unset, .unset, .unset, .unset, .unset, .unset, .unset, .unset, .unset] [(.int (3 : Int32))])) _
      refine XS.ifYes X0.here hx rfl (pc0 := 10) (pc' := 21) rfl (hb hby at_10) rfl ((if0 _ _).trans (feq (by decide : ¬ ((3 : Int32) = (0 : Int32)))).2) (by decide) (by decide) ?_
      show Steps p.tables e below (s₁.setTop (mkF m 21 #[.val (.int p0_0), .val (.int p0_1), .val (.int p0_2), .val (.int p0_3), .val (.int (3 : Int32)), .unset, .unset, .unset, .unset, .unset, .unset, .unset, .unset, .unset, .unset, .unset, .unset, .unset] [])) _
      refine XS.iload X0.here hx rfl (hb hby at_21) rfl ?_
      show Steps p.tables e below (s₁.setTop (mkF m 23 #[.val (.int p0_0), .val (.int p0_1), .val (.int p0_2), .val (.int p0_3), .val (.int (3 : Int32)), .unset, .unset, .unset, .unset, .unset, .unset, .unset, .unset, .unset, .unset, .unset, .unset, .unset] [(.int (3 : Int32))])) _
      refine XS.iconst X0.here hx rfl (hb hby at_23) ?_
      show Steps p.tables e below (s₁.setTop (mkF m 24 #[.val (.int p0_0), .val (.int p0_1), .val (.int p0_2), .val (.int p0_3), .val (.int (3 : Int32)), .unset, .unset, .unset, .unset, .unset, .unset, .unset, .unset, .unset, .unset, .unset, .unset, .unset] [(.int (1 : Int32)), (.int (3 : Int32))])) _
      refine XS.icmpYes X0.here hx rfl (pc0 := 24) (pc' := 35) rfl (hb hby at_24) rfl (feq (by decide : ¬ ((3 : Int32) = (1 : Int32)))).2 (by decide) (by decide) ?_
      show Steps p.tables e below (s₁.setTop (mkF m 35 #[.val (.int p0_0), .val (.int p0_1), .val (.int p0_2), .val (.int p0_3), .val (.int (3 : Int32)), .unset, .unset, .unset, .unset, .unset, .unset, .unset, .unset, .unset, .unset, .unset, .unset, .unset] [])) _
      refine XS.iload X0.here hx rfl (hb hby at_35) rfl ?_
      show Steps p.tables e below (s₁.setTop (mkF m 37 #[.val (.int p0_0), .val (.int p0_1), .val (.int p0_2), .val (.int p0_3), .val (.int (3 : Int32)), .unset, .unset, .unset, .unset, .unset, .unset, .unset, .unset, .unset, .unset, .unset, .unset, .unset] [(.int (3 : Int32))])) _
      refine XS.iconst X0.here hx rfl (hb hby at_37) ?_
      show Steps p.tables e below (s₁.setTop (mkF m 38 #[.val (.int p0_0), .val (.int p0_1), .val (.int p0_2), .val (.int p0_3), .val (.int (3 : Int32)), .unset, .unset, .unset, .unset, .unset, .unset, .unset, .unset, .unset, .unset, .unset, .unset, .unset] [(.int (2 : Int32)), (.int (3 : Int32))])) _
      refine XS.icmpYes X0.here hx rfl (pc0 := 38) (pc' := 49) rfl (hb hby at_38) rfl (feq (by decide : ¬ ((3 : Int32) = (2 : Int32)))).2 (by decide) (by decide) ?_
      show Steps p.tables e below (s₁.setTop (mkF m 49 #[.val (.int p0_0), .val (.int p0_1), .val (.int p0_2), .val (.int p0_3), .val (.int (3 : Int32)), .unset, .unset, .unset, .unset, .unset, .unset, .unset, .unset, .unset, .unset, .unset, .unset, .unset] [])) _
      refine XS.iload X0.here hx rfl (hb hby at_49) rfl ?_
      show Steps p.tables e below (s₁.setTop (mkF m 51 #[.val (.int p0_0), .val (.int p0_1), .val (.int p0_2), .val (.int p0_3), .val (.int (3 : Int32)), .unset, .unset, .unset, .unset, .unset, .unset, .unset, .unset, .unset, .unset, .unset, .unset, .unset] [(.int (3 : Int32))])) _
      refine XS.iconst X0.here hx rfl (hb hby at_51) ?_
      show Steps p.tables e below (s₁.setTop (mkF m 52 #[.val (.int p0_0), .val (.int p0_1), .val (.int p0_2), .val (.int p0_3), .val (.int (3 : Int32)), .unset, .unset, .unset, .unset, .unset, .unset, .unset, .unset, .unset, .unset, .unset, .unset, .unset] [(.int (3 : Int32)), (.int (3 : Int32))])) _
      refine XS.icmpNo X0.here hx rfl (hb hby at_52) rfl (teq (by decide : (3 : Int32) = (3 : Int32))).2 ?_
      show Steps p.tables e below (s₁.setTop (mkF m 55 #[.val (.int p0_0), .val (.int p0_1), .val (.int p0_2), .val (.int p0_3), .val (.int (3 : Int32)), .unset, .unset, .unset, .unset, .unset, .unset, .unset, .unset, .unset, .unset, .unset, .unset, .unset] [])) _
      refine st408 _ ?_
      show Steps p.tables e below (T408.setTop (mkF m 58 #[.val (.int p0_0), .val (.int p0_1), .val (.int p0_2), .val (.int p0_3), .val (.int (3 : Int32)), .unset, .unset, .unset, .unset, .unset, .unset, .unset, .unset, .unset, .unset, .unset, .unset, .unset] [(.ref u_SYMBOL)])) _
      refine XS.astore X408.here hx rfl (hb hby at_58) rfl rfl (l' := #[.val (.int p0_0), .val (.int p0_1), .val (.int p0_2), .val (.int p0_3), .val (.int (3 : Int32)), .val (.ref u_SYMBOL), .unset, .unset, .unset, .unset, .unset, .unset, .unset, .unset, .unset, .unset, .unset, .unset]) rfl ?_
      show Steps p.tables e below (T408.setTop (mkF m 60 #[.val (.int p0_0), .val (.int p0_1), .val (.int p0_2), .val (.int p0_3), .val (.int (3 : Int32)), .val (.ref u_SYMBOL), .unset, .unset, .unset, .unset, .unset, .unset, .unset, .unset, .unset, .unset, .unset, .unset] [])) _
      refine XS.goto X408.here hx rfl (pc0 := 60) (pc' := 68) rfl (hb hby at_60) (by decide) (by decide) ?_
      show Steps p.tables e below (T408.setTop (mkF m 68 #[.val (.int p0_0), .val (.int p0_1), .val (.int p0_2), .val (.int p0_3), .val (.int (3 : Int32)), .val (.ref u_SYMBOL), .unset, .unset, .unset, .unset, .unset, .unset, .unset, .unset, .unset, .unset, .unset, .unset] [])) _
      refine XS.iloadN X408.here hx rfl (hb hby at_68) rfl ?_
      show Steps p.tables e below (T408.setTop (mkF m 69 #[.val (.int p0_0), .val (.int p0_1), .val (.int p0_2), .val (.int p0_3), .val (.int (3 : Int32)), .val (.ref u_SYMBOL), .unset, .unset, .unset, .unset, .unset, .unset, .unset, .unset, .unset, .unset, .unset, .unset] [(.int p0_1)])) _
      refine XS.iconst X408.here hx rfl (hb hby at_69) ?_
      show Steps p.tables e below (T408.setTop (mkF m 70 #[.val (.int p0_0), .val (.int p0_1), .val (.int p0_2), .val (.int p0_3), .val (.int (3 : Int32)), .val (.ref u_SYMBOL), .unset, .unset, .unset, .unset, .unset, .unset, .unset, .unset, .unset, .unset, .unset, .unset] [(.int (3 : Int32)), (.int p0_1)])) _
      refine XS.iand X408.here hx rfl (hb hby at_70) rfl ?_
      exact k
    obtain ⟨zt, hzt⟩ : ∃ z, z = (p0_1 &&& (3 : Int32)) := ⟨_, rfl⟩
    rw [← hzt] at k409
    have k410 : ∀ t, Steps p.tables e below (T408.setTop (mkF m 76 #[.val (.int p0_0), .val (.int p0_1), .val (.int p0_2), .val (.int p0_3), .val (.int (3 : Int32)), .val (.ref u_SYMBOL), .val (.int zt), .unset, .unset, .unset, .unset, .unset, .unset, .unset, .unset, .unset, .unset, .unset] [(.int (p0_2 &&& (3 : Int32)))])) t → Steps p.tables e below (s₁.setTop (entryFrame m #[(.int p0_0), (.int p0_1), (.int p0_2), (.int p0_3)] maxLocals)) t := by
      intro t k
      refine k409 t ?_
      show Steps p.tables e below (T408.setTop (mkF m 71 #[.val (.int p0_0), .val (.int p0_1), .val (.int p0_2), .val (.int p0_3), .val (.int (3 : Int32)), .val (.ref u_SYMBOL), .unset, .unset, .unset, .unset, .unset, .unset, .unset, .unset, .unset, .unset, .unset, .unset] [(.int zt)])) _
      refine XS.istore X408.here hx rfl (hb hby at_71) rfl (l' := #[.val (.int p0_0), .val (.int p0_1), .val (.int p0_2), .val (.int p0_3), .val (.int (3 : Int32)), .val (.ref u_SYMBOL), .val (.int zt), .unset, .unset, .unset, .unset, .unset, .unset, .unset, .unset, .unset, .unset, .unset]) rfl ?_
      show Steps p.tables e below (T408.setTop (mkF m 73 #[.val (.int p0_0), .val (.int p0_1), .val (.int p0_2), .val (.int p0_3), .val (.int (3 : Int32)), .val (.ref u_SYMBOL), .val (.int zt), .unset, .unset, .unset, .unset, .unset, .unset, .unset, .unset, .unset, .unset, .unset] [])) _
      refine XS.iloadN X408.here hx rfl (hb hby at_73) rfl ?_
      show Steps p.tables e below (T408.setTop (mkF m 74 #[.val (.int p0_0), .val (.int p0_1), .val (.int p0_2), .val (.int p0_3), .val (.int (3 : Int32)), .val (.ref u_SYMBOL), .val (.int zt), .unset, .unset, .unset, .unset, .unset, .unset, .unset, .unset, .unset, .unset, .unset] [(.int p0_2)])) _
      refine XS.iconst X408.here hx rfl (hb hby at_74) ?_
      show Steps p.tables e below (T408.setTop (mkF m 75 #[.val (.int p0_0), .val (.int p0_1), .val (.int p0_2), .val (.int p0_3), .val (.int (3 : Int32)), .val (.ref u_SYMBOL), .val (.int zt), .unset, .unset, .unset, .unset, .unset, .unset, .unset, .unset, .unset, .unset, .unset] [(.int (3 : Int32)), (.int p0_2)])) _
      refine XS.iand X408.here hx rfl (hb hby at_75) rfl ?_
      exact k
    obtain ⟨zs, hzs⟩ : ∃ z, z = (p0_2 &&& (3 : Int32)) := ⟨_, rfl⟩
    rw [← hzs] at k410
    have k411 : ∀ t, Steps p.tables e below (T408.setTop (mkF m 86 #[.val (.int p0_0), .val (.int p0_1), .val (.int p0_2), .val (.int p0_3), .val (.int (3 : Int32)), .val (.ref u_SYMBOL), .val (.int zt), .val (.int zs), .unset, .unset, .unset, .unset, .unset, .unset, .unset, .unset, .unset, .unset] [(.int (((p0_1.toUInt32 >>> ((8 : Int32) &&& 31).toUInt32).toInt32) &&& (255 : Int32)))])) t → Steps p.tables e below (s₁.setTop (entryFrame m #[(.int p0_0), (.int p0_1), (.int p0_2), (.int p0_3)] maxLocals)) t := by
      intro t k
      refine k410 t ?_
      show Steps p.tables e below (T408.setTop (mkF m 76 #[.val (.int p0_0), .val (.int p0_1), .val (.int p0_2), .val (.int p0_3), .val (.int (3 : Int32)), .val (.ref u_SYMBOL), .val (.int zt), .unset, .unset, .unset, .unset, .unset, .unset, .unset, .unset, .unset, .unset, .unset] [(.int zs)])) _
      refine XS.istore X408.here hx rfl (hb hby at_76) rfl (l' := #[.val (.int p0_0), .val (.int p0_1), .val (.int p0_2), .val (.int p0_3), .val (.int (3 : Int32)), .val (.ref u_SYMBOL), .val (.int zt), .val (.int zs), .unset, .unset, .unset, .unset, .unset, .unset, .unset, .unset, .unset, .unset]) rfl ?_
      show Steps p.tables e below (T408.setTop (mkF m 78 #[.val (.int p0_0), .val (.int p0_1), .val (.int p0_2), .val (.int p0_3), .val (.int (3 : Int32)), .val (.ref u_SYMBOL), .val (.int zt), .val (.int zs), .unset, .unset, .unset, .unset, .unset, .unset, .unset, .unset, .unset, .unset] [])) _
      refine XS.iloadN X408.here hx rfl (hb hby at_78) rfl ?_
      show Steps p.tables e below (T408.setTop (mkF m 79 #[.val (.int p0_0), .val (.int p0_1), .val (.int p0_2), .val (.int p0_3), .val (.int (3 : Int32)), .val (.ref u_SYMBOL), .val (.int zt), .val (.int zs), .unset, .unset, .unset, .unset, .unset, .unset, .unset, .unset, .unset, .unset] [(.int p0_1)])) _
      refine XS.bipush X408.here hx rfl (hb hby at_79) ?_
      show Steps p.tables e below (T408.setTop (mkF m 81 #[.val (.int p0_0), .val (.int p0_1), .val (.int p0_2), .val (.int p0_3), .val (.int (3 : Int32)), .val (.ref u_SYMBOL), .val (.int zt), .val (.int zs), .unset, .unset, .unset, .unset, .unset, .unset, .unset, .unset, .unset, .unset] [(.int (8 : Int32)), (.int p0_1)])) _
      refine XS.iushr X408.here hx rfl (hb hby at_81) rfl ?_
      show Steps p.tables e below (T408.setTop (mkF m 82 #[.val (.int p0_0), .val (.int p0_1), .val (.int p0_2), .val (.int p0_3), .val (.int (3 : Int32)), .val (.ref u_SYMBOL), .val (.int zt), .val (.int zs), .unset, .unset, .unset, .unset, .unset, .unset, .unset, .unset, .unset, .unset] [(.int ((p0_1.toUInt32 >>> ((8 : Int32) &&& 31).toUInt32).toInt32))])) _
      refine XS.sipush X408.here hx rfl (hb hby at_82) ?_
      show Steps p.tables e below (T408.setTop (mkF m 85 #[.val (.int p0_0), .val (.int p0_1), .val (.int p0_2), .val (.int p0_3), .val (.int (3 : Int32)), .val (.ref u_SYMBOL), .val (.int zt), .val (.int zs), .unset, .unset, .unset, .unset, .unset, .unset, .unset, .unset, .unset, .unset] [(.int (255 : Int32)), (.int ((p0_1.toUInt32 >>> ((8 : Int32) &&& 31).toUInt32).toInt32))])) _
      refine XS.iand X408.here hx rfl (hb hby at_85) rfl ?_
      exact k
    obtain ⟨zc1, hzc1⟩ : ∃ z, z = (((p0_1.toUInt32 >>> ((8 : Int32) &&& 31).toUInt32).toInt32) &&& (255 : Int32)) := ⟨_, rfl⟩
    rw [← hzc1] at k411
    have hr_zc1 : ¬ (zc1 < (0 : Int32)) ∧ ¬ ((255 : Int32) < zc1) := by rw [hzc1]; exact own_m255 _
    have k412 : ∀ t, Steps p.tables e below (T408.setTop (mkF m 96 #[.val (.int p0_0), .val (.int p0_1), .val (.int p0_2), .val (.int p0_3), .val (.int (3 : Int32)), .val (.ref u_SYMBOL), .val (.int zt), .val (.int zs), .val (.int zc1), .unset, .unset, .unset, .unset, .unset, .unset, .unset, .unset, .unset] [(.int (((p0_1.toUInt32 >>> ((16 : Int32) &&& 31).toUInt32).toInt32) &&& (255 : Int32)))])) t → Steps p.tables e below (s₁.setTop (entryFrame m #[(.int p0_0), (.int p0_1), (.int p0_2), (.int p0_3)] maxLocals)) t := by
      intro t k
      refine k411 t ?_
      show Steps p.tables e below (T408.setTop (mkF m 86 #[.val (.int p0_0), .val (.int p0_1), .val (.int p0_2), .val (.int p0_3), .val (.int (3 : Int32)), .val (.ref u_SYMBOL), .val (.int zt), .val (.int zs), .unset, .unset, .unset, .unset, .unset, .unset, .unset, .unset, .unset, .unset] [(.int zc1)])) _
      refine XS.istore X408.here hx rfl (hb hby at_86) rfl (l' := #[.val (.int p0_0), .val (.int p0_1), .val (.int p0_2), .val (.int p0_3), .val (.int (3 : Int32)), .val (.ref u_SYMBOL), .val (.int zt), .val (.int zs), .val (.int zc1), .unset, .unset, .unset, .unset, .unset, .unset, .unset, .unset, .unset]) rfl ?_
      show Steps p.tables e below (T408.setTop (mkF m 88 #[.val (.int p0_0), .val (.int p0_1), .val (.int p0_2), .val (.int p0_3), .val (.int (3 : Int32)), .val (.ref u_SYMBOL), .val (.int zt), .val (.int zs), .val (.int zc1), .unset, .unset, .unset, .unset, .unset, .unset, .unset, .unset, .unset] [])) _
      refine XS.iloadN X408.here hx rfl (hb hby at_88) rfl ?_
      show Steps p.tables e below (T408.setTop (mkF m 89 #[.val (.int p0_0), .val (.int p0_1), .val (.int p0_2), .val (.int p0_3), .val (.int (3 : Int32)), .val (.ref u_SYMBOL), .val (.int zt), .val (.int zs), .val (.int zc1), .unset, .unset, .unset, .unset, .unset, .unset, .unset, .unset, .unset] [(.int p0_1)])) _
      refine XS.bipush X408.here hx rfl (hb hby at_89) ?_
      show Steps p.tables e below (T408.setTop (mkF m 91 #[.val (.int p0_0), .val (.int p0_1), .val (.int p0_2), .val (.int p0_3), .val (.int (3 : Int32)), .val (.ref u_SYMBOL), .val (.int zt), .val (.int zs), .val (.int zc1), .unset, .unset, .unset, .unset, .unset, .unset, .unset, .unset, .unset] [(.int (16 : Int32)), (.int p0_1)])) _
      refine XS.iushr X408.here hx rfl (hb hby at_91) rfl ?_
      show Steps p.tables e below (T408.setTop (mkF m 92 #[.val (.int p0_0), .val (.int p0_1), .val (.int p0_2), .val (.int p0_3), .val (.int (3 : Int32)), .val (.ref u_SYMBOL), .val (.int zt), .val (.int zs), .val (.int zc1), .unset, .unset, .unset, .unset, .unset, .unset, .unset, .unset, .unset] [(.int ((p0_1.toUInt32 >>> ((16 : Int32) &&& 31).toUInt32).toInt32))])) _
      refine XS.sipush X408.here hx rfl (hb hby at_92) ?_
      show Steps p.tables e below (T408.setTop (mkF m 95 #[.val (.int p0_0), .val (.int p0_1), .val (.int p0_2), .val (.int p0_3), .val (.int (3 : Int32)), .val (.ref u_SYMBOL), .val (.int zt), .val (.int zs), .val (.int zc1), .unset, .unset, .unset, .unset, .unset, .unset, .unset, .unset, .unset] [(.int (255 : Int32)), (.int ((p0_1.toUInt32 >>> ((16 : Int32) &&& 31).toUInt32).toInt32))])) _
      refine XS.iand X408.here hx rfl (hb hby at_95) rfl ?_
      exact k
    obtain ⟨zc2, hzc2⟩ : ∃ z, z = (((p0_1.toUInt32 >>> ((16 : Int32) &&& 31).toUInt32).toInt32) &&& (255 : Int32)) := ⟨_, rfl⟩
    rw [← hzc2] at k412
    have hr_zc2 : ¬ (zc2 < (0 : Int32)) ∧ ¬ ((255 : Int32) < zc2) := by rw [hzc2]; exact own_m255 _
    have k413 : ∀ t, Steps p.tables e below (T408.setTop (mkF m 106 #[.val (.int p0_0), .val (.int p0_1), .val (.int p0_2), .val (.int p0_3), .val (.int (3 : Int32)), .val (.ref u_SYMBOL), .val (.int zt), .val (.int zs), .val (.int zc1), .val (.int zc2), .unset, .unset, .unset, .unset, .unset, .unset, .unset, .unset] [(.int (((p0_1.toUInt32 >>> ((24 : Int32) &&& 31).toUInt32).toInt32) &&& (255 : Int32)))])) t → Steps p.tables e below (s₁.setTop (entryFrame m #[(.int p0_0), (.int p0_1), (.int p0_2), (.int p0_3)] maxLocals)) t := by
      intro t k
      refine k412 t ?_
      show Steps p.tables e below (T408.setTop (mkF m 96 #[.val (.int p0_0), .val (.int p0_1), .val (.int p0_2), .val (.int p0_3), .val (.int (3 : Int32)), .val (.ref u_SYMBOL), .val (.int zt), .val (.int zs), .val (.int zc1), .unset, .unset, .unset, .unset, .unset, .unset, .unset, .unset, .unset] [(.int zc2)])) _
      refine XS.istore X408.here hx rfl (hb hby at_96) rfl (l' := #[.val (.int p0_0), .val (.int p0_1), .val (.int p0_2), .val (.int p0_3), .val (.int (3 : Int32)), .val (.ref u_SYMBOL), .val (.int zt), .val (.int zs), .val (.int zc1), .val (.int zc2), .unset, .unset, .unset, .unset, .unset, .unset, .unset, .unset]) rfl ?_
      show Steps p.tables e below (T408.setTop (mkF m 98 #[.val (.int p0_0), .val (.int p0_1), .val (.int p0_2), .val (.int p0_3), .val (.int (3 : Int32)), .val (.ref u_SYMBOL), .val (.int zt), .val (.int zs), .val (.int zc1), .val (.int zc2), .unset, .unset, .unset, .unset, .unset, .unset, .unset, .unset] [])) _
      refine XS.iloadN X408.here hx rfl (hb hby at_98) rfl ?_
      show Steps p.tables e below (T408.setTop (mkF m 99 #[.val (.int p0_0), .val (.int p0_1), .val (.int p0_2), .val (.int p0_3), .val (.int (3 : Int32)), .val (.ref u_SYMBOL), .val (.int zt), .val (.int zs), .val (.int zc1), .val (.int zc2), .unset, .unset, .unset, .unset, .unset, .unset, .unset, .unset] [(.int p0_1)])) _
      refine XS.bipush X408.here hx rfl (hb hby at_99) ?_
      show Steps p.tables e below (T408.setTop (mkF m 101 #[.val (.int p0_0), .val (.int p0_1), .val (.int p0_2), .val (.int p0_3), .val (.int (3 : Int32)), .val (.ref u_SYMBOL), .val (.int zt), .val (.int zs), .val (.int zc1), .val (.int zc2), .unset, .unset, .unset, .unset, .unset, .unset, .unset, .unset] [(.int (24 : Int32)), (.int p0_1)])) _
      refine XS.iushr X408.here hx rfl (hb hby at_101) rfl ?_
      show Steps p.tables e below (T408.setTop (mkF m 102 #[.val (.int p0_0), .val (.int p0_1), .val (.int p0_2), .val (.int p0_3), .val (.int (3 : Int32)), .val (.ref u_SYMBOL), .val (.int zt), .val (.int zs), .val (.int zc1), .val (.int zc2), .unset, .unset, .unset, .unset, .unset, .unset, .unset, .unset] [(.int ((p0_1.toUInt32 >>> ((24 : Int32) &&& 31).toUInt32).toInt32))])) _
      refine XS.sipush X408.here hx rfl (hb hby at_102) ?_
      show Steps p.tables e below (T408.setTop (mkF m 105 #[.val (.int p0_0), .val (.int p0_1), .val (.int p0_2), .val (.int p0_3), .val (.int (3 : Int32)), .val (.ref u_SYMBOL), .val (.int zt), .val (.int zs), .val (.int zc1), .val (.int zc2), .unset, .unset, .unset, .unset, .unset, .unset, .unset, .unset] [(.int (255 : Int32)), (.int ((p0_1.toUInt32 >>> ((24 : Int32) &&& 31).toUInt32).toInt32))])) _
      refine XS.iand X408.here hx rfl (hb hby at_105) rfl ?_
      exact k
    obtain ⟨zc3, hzc3⟩ : ∃ z, z = (((p0_1.toUInt32 >>> ((24 : Int32) &&& 31).toUInt32).toInt32) &&& (255 : Int32)) := ⟨_, rfl⟩
    rw [← hzc3] at k413
    have hr_zc3 : ¬ (zc3 < (0 : Int32)) ∧ ¬ ((255 : Int32) < zc3) := by rw [hzc3]; exact own_m255 _
    have k414 : ∀ t, Steps p.tables e below (T408.setTop (mkF m 116 #[.val (.int p0_0), .val (.int p0_1), .val (.int p0_2), .val (.int p0_3), .val (.int (3 : Int32)), .val (.ref u_SYMBOL), .val (.int zt), .val (.int zs), .val (.int zc1), .val (.int zc2), .val (.int zc3), .unset, .unset, .unset, .unset, .unset, .unset, .unset] [(.int (((p0_2.toUInt32 >>> ((8 : Int32) &&& 31).toUInt32).toInt32) &&& (255 : Int32)))])) t → Steps p.tables e below (s₁.setTop (entryFrame m #[(.int p0_0), (.int p0_1), (.int p0_2), (.int p0_3)] maxLocals)) t := by
      intro t k
      refine k413 t ?_
      show Steps p.tables e below (T408.setTop (mkF m 106 #[.val (.int p0_0), .val (.int p0_1), .val (.int p0_2), .val (.int p0_3), .val (.int (3 : Int32)), .val (.ref u_SYMBOL), .val (.int zt), .val (.int zs), .val (.int zc1), .val (.int zc2), .unset, .unset, .unset, .unset, .unset, .unset, .unset, .unset] [(.int zc3)])) _
      refine XS.istore X408.here hx rfl (hb hby at_106) rfl (l' := #[.val (.int p0_0), .val (.int p0_1), .val (.int p0_2), .val (.int p0_3), .val (.int (3 : Int32)), .val (.ref u_SYMBOL), .val (.int zt), .val (.int zs), .val (.int zc1), .val (.int zc2), .val (.int zc3), .unset, .unset, .unset, .unset, .unset, .unset, .unset]) rfl ?_
      show Steps p.tables e below (T408.setTop (mkF m 108 #[.val (.int p0_0), .val (.int p0_1), .val (.int p0_2), .val (.int p0_3), .val (.int (3 : Int32)), .val (.ref u_SYMBOL), .val (.int zt), .val (.int zs), .val (.int zc1), .val (.int zc2), .val (.int zc3), .unset, .unset, .unset, .unset, .unset, .unset, .unset] [])) _
      refine XS.iloadN X408.here hx rfl (hb hby at_108) rfl ?_
      show Steps p.tables e below (T408.setTop (mkF m 109 #[.val (.int p0_0), .val (.int p0_1), .val (.int p0_2), .val (.int p0_3), .val (.int (3 : Int32)), .val (.ref u_SYMBOL), .val (.int zt), .val (.int zs), .val (.int zc1), .val (.int zc2), .val (.int zc3), .unset, .unset, .unset, .unset, .unset, .unset, .unset] [(.int p0_2)])) _
      refine XS.bipush X408.here hx rfl (hb hby at_109) ?_
      show Steps p.tables e below (T408.setTop (mkF m 111 #[.val (.int p0_0), .val (.int p0_1), .val (.int p0_2), .val (.int p0_3), .val (.int (3 : Int32)), .val (.ref u_SYMBOL), .val (.int zt), .val (.int zs), .val (.int zc1), .val (.int zc2), .val (.int zc3), .unset, .unset, .unset, .unset, .unset, .unset, .unset] [(.int (8 : Int32)), (.int p0_2)])) _
      refine XS.iushr X408.here hx rfl (hb hby at_111) rfl ?_
      show Steps p.tables e below (T408.setTop (mkF m 112 #[.val (.int p0_0), .val (.int p0_1), .val (.int p0_2), .val (.int p0_3), .val (.int (3 : Int32)), .val (.ref u_SYMBOL), .val (.int zt), .val (.int zs), .val (.int zc1), .val (.int zc2), .val (.int zc3), .unset, .unset, .unset, .unset, .unset, .unset, .unset] [(.int ((p0_2.toUInt32 >>> ((8 : Int32) &&& 31).toUInt32).toInt32))])) _
      refine XS.sipush X408.here hx rfl (hb hby at_112) ?_
      show Steps p.tables e below (T408.setTop (mkF m 115 #[.val (.int p0_0), .val (.int p0_1), .val (.int p0_2), .val (.int p0_3), .val (.int (3 : Int32)), .val (.ref u_SYMBOL), .val (.int zt), .val (.int zs), .val (.int zc1), .val (.int zc2), .val (.int zc3), .unset, .unset, .unset, .unset, .unset, .unset, .unset] [(.int (255 : Int32)), (.int ((p0_2.toUInt32 >>> ((8 : Int32) &&& 31).toUInt32).toInt32))])) _
      refine XS.iand X408.here hx rfl (hb hby at_115) rfl ?_
      exact k
    obtain ⟨zd1, hzd1⟩ : ∃ z, z = (((p0_2.toUInt32 >>> ((8 : Int32) &&& 31).toUInt32).toInt32) &&& (255 : Int32)) := ⟨_, rfl⟩
    rw [← hzd1] at k414
    have hr_zd1 : ¬ (zd1 < (0 : Int32)) ∧ ¬ ((255 : Int32) < zd1) := by rw [hzd1]; exact own_m255 _
    have k415 : ∀ t, Steps p.tables e below (T408.setTop (mkF m 126 #[.val (.int p0_0), .val (.int p0_1), .val (.int p0_2), .val (.int p0_3), .val (.int (3 : Int32)), .val (.ref u_SYMBOL), .val (.int zt), .val (.int zs), .val (.int zc1), .val (.int zc2), .val (.int zc3), .val (.int zd1), .unset, .unset, .unset, .unset, .unset, .unset] [(.int (((p0_2.toUInt32 >>> ((16 : Int32) &&& 31).toUInt32).toInt32) &&& (255 : Int32)))])) t → Steps p.tables e below (s₁.setTop (entryFrame m #[(.int p0_0), (.int p0_1), (.int p0_2), (.int p0_3)] maxLocals)) t := by
      intro t k
      refine k414 t ?_
      show Steps p.tables e below (T408.setTop (mkF m 116 #[.val (.int p0_0), .val (.int p0_1), .val (.int p0_2), .val (.int p0_3), .val (.int (3 : Int32)), .val (.ref u_SYMBOL), .val (.int zt), .val (.int zs), .val (.int zc1), .val (.int zc2), .val (.int zc3), .unset, .unset, .unset, .unset, .unset, .unset, .unset] [(.int zd1)])) _
      refine XS.istore X408.here hx rfl (hb hby at_116) rfl (l' := #[.val (.int p0_0), .val (.int p0_1), .val (.int p0_2), .val (.int p0_3), .val (.int (3 : Int32)), .val (.ref u_SYMBOL), .val (.int zt), .val (.int zs), .val (.int zc1), .val (.int zc2), .val (.int zc3), .val (.int zd1), .unset, .unset, .unset, .unset, .unset, .unset]) rfl ?_
      show Steps p.tables e below (T408.setTop (mkF m 118 #[.val (.int p0_0), .val (.int p0_1), .val (.int p0_2), .val (.int p0_3), .val (.int (3 : Int32)), .val (.ref u_SYMBOL), .val (.int zt), .val (.int zs), .val (.int zc1), .val (.int zc2), .val (.int zc3), .val (.int zd1), .unset, .unset, .unset, .unset, .unset, .unset] [])) _
      refine XS.iloadN X408.here hx rfl (hb hby at_118) rfl ?_
      show Steps p.tables e below (T408.setTop (mkF m 119 #[.val (.int p0_0), .val (.int p0_1), .val (.int p0_2), .val (.int p0_3), .val (.int (3 : Int32)), .val (.ref u_SYMBOL), .val (.int zt), .val (.int zs), .val (.int zc1), .val (.int zc2), .val (.int zc3), .val (.int zd1), .unset, .unset, .unset, .unset, .unset, .unset] [(.int p0_2)])) _
      refine XS.bipush X408.here hx rfl (hb hby at_119) ?_
      show Steps p.tables e below (T408.setTop (mkF m 121 #[.val (.int p0_0), .val (.int p0_1), .val (.int p0_2), .val (.int p0_3), .val (.int (3 : Int32)), .val (.ref u_SYMBOL), .val (.int zt), .val (.int zs), .val (.int zc1), .val (.int zc2), .val (.int zc3), .val (.int zd1), .unset, .unset, .unset, .unset, .unset, .unset] [(.int (16 : Int32)), (.int p0_2)])) _
      refine XS.iushr X408.here hx rfl (hb hby at_121) rfl ?_
      show Steps p.tables e below (T408.setTop (mkF m 122 #[.val (.int p0_0), .val (.int p0_1), .val (.int p0_2), .val (.int p0_3), .val (.int (3 : Int32)), .val (.ref u_SYMBOL), .val (.int zt), .val (.int zs), .val (.int zc1), .val (.int zc2), .val (.int zc3), .val (.int zd1), .unset, .unset, .unset, .unset, .unset, .unset] [(.int ((p0_2.toUInt32 >>> ((16 : Int32) &&& 31).toUInt32).toInt32))])) _
      refine XS.sipush X408.here hx rfl (hb hby at_122) ?_
      show Steps p.tables e below (T408.setTop (mkF m 125 #[.val (.int p0_0), .val (.int p0_1), .val (.int p0_2), .val (.int p0_3), .val (.int (3 : Int32)), .val (.ref u_SYMBOL), .val (.int zt), .val (.int zs), .val (.int zc1), .val (.int zc2), .val (.int zc3), .val (.int zd1), .unset, .unset, .unset, .unset, .unset, .unset] [(.int (255 : Int32)), (.int ((p0_2.toUInt32 >>> ((16 : Int32) &&& 31).toUInt32).toInt32))])) _
      refine XS.iand X408.here hx rfl (hb hby at_125) rfl ?_
      exact k
    obtain ⟨zd2, hzd2⟩ : ∃ z, z = (((p0_2.toUInt32 >>> ((16 : Int32) &&& 31).toUInt32).toInt32) &&& (255 : Int32)) := ⟨_, rfl⟩
    rw [← hzd2] at k415
    have hr_zd2 : ¬ (zd2 < (0 : Int32)) ∧ ¬ ((255 : Int32) < zd2) := by rw [hzd2]; exact own_m255 _
    have k416 : ∀ t, Steps p.tables e below (T408.setTop (mkF m 136 #[.val (.int p0_0), .val (.int p0_1), .val (.int p0_2), .val (.int p0_3), .val (.int (3 : Int32)), .val (.ref u_SYMBOL), .val (.int zt), .val (.int zs), .val (.int zc1), .val (.int zc2), .val (.int zc3), .val (.int zd1), .val (.int zd2), .unset, .unset, .unset, .unset, .unset] [(.int (((p0_2.toUInt32 >>> ((24 : Int32) &&& 31).toUInt32).toInt32) &&& (255 : Int32)))])) t → Steps p.tables e below (s₁.setTop (entryFrame m #[(.int p0_0), (.int p0_1), (.int p0_2), (.int p0_3)] maxLocals)) t := by
      intro t k
      refine k415 t ?_
      show Steps p.tables e below (T408.setTop (mkF m 126 #[.val (.int p0_0), .val (.int p0_1), .val (.int p0_2), .val (.int p0_3), .val (.int (3 : Int32)), .val (.ref u_SYMBOL), .val (.int zt), .val (.int zs), .val (.int zc1), .val (.int zc2), .val (.int zc3), .val (.int zd1), .unset, .unset, .unset, .unset, .unset, .unset] [(.int zd2)])) _
      refine XS.istore X408.here hx rfl (hb hby at_126) rfl (l' := #[.val (.int p0_0), .val (.int p0_1), .val (.int p0_2), .val (.int p0_3), .val (.int (3 : Int32)), .val (.ref u_SYMBOL), .val (.int zt), .val (.int zs), .val (.int zc1), .val (.int zc2), .val (.int zc3), .val (.int zd1), .val (.int zd2), .unset, .unset, .unset, .unset, .unset]) rfl ?_
      show Steps p.tables e below (T408.setTop (mkF m 128 #[.val (.int p0_0), .val (.int p0_1), .val (.int p0_2), .val (.int p0_3), .val (.int (3 : Int32)), .val (.ref u_SYMBOL), .val (.int zt), .val (.int zs), .val (.int zc1), .val (.int zc2), .val (.int zc3), .val (.int zd1), .val (.int zd2), .unset, .unset, .unset, .unset, .unset] [])) _
      refine XS.iloadN X408.here hx rfl (hb hby at_128) rfl ?_
      show Steps p.tables e below (T408.setTop (mkF m 129 #[.val (.int p0_0), .val (.int p0_1), .val (.int p0_2), .val (.int p0_3), .val (.int (3 : Int32)), .val (.ref u_SYMBOL), .val (.int zt), .val (.int zs), .val (.int zc1), .val (.int zc2), .val (.int zc3), .val (.int zd1), .val (.int zd2), .unset, .unset, .unset, .unset, .unset] [(.int p0_2)])) _
      refine XS.bipush X408.here hx rfl (hb hby at_129) ?_
      show Steps p.tables e below (T408.setTop (mkF m 131 #[.val (.int p0_0), .val (.int p0_1), .val (.int p0_2), .val (.int p0_3), .val (.int (3 : Int32)), .val (.ref u_SYMBOL), .val (.int zt), .val (.int zs), .val (.int zc1), .val (.int zc2), .val (.int zc3), .val (.int zd1), .val (.int zd2), .unset, .unset, .unset, .unset, .unset] [(.int (24 : Int32)), (.int p0_2)])) _
      refine XS.iushr X408.here hx rfl (hb hby at_131) rfl ?_
      show Steps p.tables e below (T408.setTop (mkF m 132 #[.val (.int p0_0), .val (.int p0_1), .val (.int p0_2), .val (.int p0_3), .val (.int (3 : Int32)), .val (.ref u_SYMBOL), .val (.int zt), .val (.int zs), .val (.int zc1), .val (.int zc2), .val (.int zc3), .val (.int zd1), .val (.int zd2), .unset, .unset, .unset, .unset, .unset] [(.int ((p0_2.toUInt32 >>> ((24 : Int32) &&& 31).toUInt32).toInt32))])) _
      refine XS.sipush X408.here hx rfl (hb hby at_132) ?_
      show Steps p.tables e below (T408.setTop (mkF m 135 #[.val (.int p0_0), .val (.int p0_1), .val (.int p0_2), .val (.int p0_3), .val (.int (3 : Int32)), .val (.ref u_SYMBOL), .val (.int zt), .val (.int zs), .val (.int zc1), .val (.int zc2), .val (.int zc3), .val (.int zd1), .val (.int zd2), .unset, .unset, .unset, .unset, .unset] [(.int (255 : Int32)), (.int ((p0_2.toUInt32 >>> ((24 : Int32) &&& 31).toUInt32).toInt32))])) _
      refine XS.iand X408.here hx rfl (hb hby at_135) rfl ?_
      exact k
    obtain ⟨zd3, hzd3⟩ : ∃ z, z = (((p0_2.toUInt32 >>> ((24 : Int32) &&& 31).toUInt32).toInt32) &&& (255 : Int32)) := ⟨_, rfl⟩
    rw [← hzd3] at k416
    have hr_zd3 : ¬ (zd3 < (0 : Int32)) ∧ ¬ ((255 : Int32) < zd3) := by rw [hzd3]; exact own_m255 _
    have k417 : ∀ t, Steps p.tables e below (T408.setTop (mkF m 143 #[.val (.int p0_0), .val (.int p0_1), .val (.int p0_2), .val (.int p0_3), .val (.int (3 : Int32)), .val (.ref u_SYMBOL), .val (.int zt), .val (.int zs), .val (.int zc1), .val (.int zc2), .val (.int zc3), .val (.int zd1), .val (.int zd2), .val (.int zd3), .unset, .unset, .unset, .unset] [(.int zc1.toUInt32.toUInt16.toUInt32.toInt32), (.int zt)])) t → Steps p.tables e below (s₁.setTop (entryFrame m #[(.int p0_0), (.int p0_1), (.int p0_2), (.int p0_3)] maxLocals)) t := by
      intro t k
      refine k416 t ?_
      show Steps p.tables e below (T408.setTop (mkF m 136 #[.val (.int p0_0), .val (.int p0_1), .val (.int p0_2), .val (.int p0_3), .val (.int (3 : Int32)), .val (.ref u_SYMBOL), .val (.int zt), .val (.int zs), .val (.int zc1), .val (.int zc2), .val (.int zc3), .val (.int zd1), .val (.int zd2), .unset, .unset, .unset, .unset, .unset] [(.int zd3)])) _
      refine XS.istore X408.here hx rfl (hb hby at_136) rfl (l' := #[.val (.int p0_0), .val (.int p0_1), .val (.int p0_2), .val (.int p0_3), .val (.int (3 : Int32)), .val (.ref u_SYMBOL), .val (.int zt), .val (.int zs), .val (.int zc1), .val (.int zc2), .val (.int zc3), .val (.int zd1), .val (.int zd2), .val (.int zd3), .unset, .unset, .unset, .unset]) rfl ?_
      show Steps p.tables e below (T408.setTop (mkF m 138 #[.val (.int p0_0), .val (.int p0_1), .val (.int p0_2), .val (.int p0_3), .val (.int (3 : Int32)), .val (.ref u_SYMBOL), .val (.int zt), .val (.int zs), .val (.int zc1), .val (.int zc2), .val (.int zc3), .val (.int zd1), .val (.int zd2), .val (.int zd3), .unset, .unset, .unset, .unset] [])) _
      refine XS.iload X408.here hx rfl (hb hby at_138) rfl ?_
      show Steps p.tables e below (T408.setTop (mkF m 140 #[.val (.int p0_0), .val (.int p0_1), .val (.int p0_2), .val (.int p0_3), .val (.int (3 : Int32)), .val (.ref u_SYMBOL), .val (.int zt), .val (.int zs), .val (.int zc1), .val (.int zc2), .val (.int zc3), .val (.int zd1), .val (.int zd2), .val (.int zd3), .unset, .unset, .unset, .unset] [(.int zt)])) _
      refine XS.iload X408.here hx rfl (hb hby at_140) rfl ?_
      show Steps p.tables e below (T408.setTop (mkF m 142 #[.val (.int p0_0), .val (.int p0_1), .val (.int p0_2), .val (.int p0_3), .val (.int (3 : Int32)), .val (.ref u_SYMBOL), .val (.int zt), .val (.int zs), .val (.int zc1), .val (.int zc2), .val (.int zc3), .val (.int zd1), .val (.int zd2), .val (.int zd3), .unset, .unset, .unset, .unset] [(.int zc1), (.int zt)])) _
      refine XS.i2c X408.here hx rfl (hb hby at_142) rfl ?_
      exact k
    rw [show zc1.toUInt32.toUInt16.toUInt32.toInt32 = zc1 from own_i2c _ hr_zc1] at k417
    have k418 : ∀ t, Steps p.tables e below (T408.setTop (mkF m 146 #[.val (.int p0_0), .val (.int p0_1), .val (.int p0_2), .val (.int p0_3), .val (.int (3 : Int32)), .val (.ref u_SYMBOL), .val (.int zt), .val (.int zs), .val (.int zc1), .val (.int zc2), .val (.int zc3), .val (.int zd1), .val (.int zd2), .val (.int zd3), .unset, .unset, .unset, .unset] [(.int zc2.toUInt32.toUInt16.toUInt32.toInt32), (.int zc1), (.int zt)])) t → Steps p.tables e below (s₁.setTop (entryFrame m #[(.int p0_0), (.int p0_1), (.int p0_2), (.int p0_3)] maxLocals)) t := by
      intro t k
      refine k417 t ?_
      show Steps p.tables e below (T408.setTop (mkF m 143 #[.val (.int p0_0), .val (.int p0_1), .val (.int p0_2), .val (.int p0_3), .val (.int (3 : Int32)), .val (.ref u_SYMBOL), .val (.int zt), .val (.int zs), .val (.int zc1), .val (.int zc2), .val (.int zc3), .val (.int zd1), .val (.int zd2), .val (.int zd3), .unset, .unset, .unset, .unset] [(.int zc1), (.int zt)])) _
      refine XS.iload X408.here hx rfl (hb hby at_143) rfl ?_
      show Steps p.tables e below (T408.setTop (mkF m 145 #[.val (.int p0_0), .val (.int p0_1), .val (.int p0_2), .val (.int p0_3), .val (.int (3 : Int32)), .val (.ref u_SYMBOL), .val (.int zt), .val (.int zs), .val (.int zc1), .val (.int zc2), .val (.int zc3), .val (.int zd1), .val (.int zd2), .val (.int zd3), .unset, .unset, .unset, .unset] [(.int zc2), (.int zc1), (.int zt)])) _
      refine XS.i2c X408.here hx rfl (hb hby at_145) rfl ?_
      exact k
    rw [show zc2.toUInt32.toUInt16.toUInt32.toInt32 = zc2 from own_i2c _ hr_zc2] at k418
    have k419 : ∀ t, Steps p.tables e below (T408.setTop (mkF m 149 #[.val (.int p0_0), .val (.int p0_1), .val (.int p0_2), .val (.int p0_3), .val (.int (3 : Int32)), .val (.ref u_SYMBOL), .val (.int zt), .val (.int zs), .val (.int zc1), .val (.int zc2), .val (.int zc3), .val (.int zd1), .val (.int zd2), .val (.int zd3), .unset, .unset, .unset, .unset] [(.int zc3.toUInt32.toUInt16.toUInt32.toInt32), (.int zc2), (.int zc1), (.int zt)])) t → Steps p.tables e below (s₁.setTop (entryFrame m #[(.int p0_0), (.int p0_1), (.int p0_2), (.int p0_3)] maxLocals)) t := by
      intro t k
      refine k418 t ?_
      show Steps p.tables e below (T408.setTop (mkF m 146 #[.val (.int p0_0), .val (.int p0_1), .val (.int p0_2), .val (.int p0_3), .val (.int (3 : Int32)), .val (.ref u_SYMBOL), .val (.int zt), .val (.int zs), .val (.int zc1), .val (.int zc2), .val (.int zc3), .val (.int zd1), .val (.int zd2), .val (.int zd3), .unset, .unset, .unset, .unset] [(.int zc2), (.int zc1), (.int zt)])) _
      refine XS.iload X408.here hx rfl (hb hby at_146) rfl ?_
      show Steps p.tables e below (T408.setTop (mkF m 148 #[.val (.int p0_0), .val (.int p0_1), .val (.int p0_2), .val (.int p0_3), .val (.int (3 : Int32)), .val (.ref u_SYMBOL), .val (.int zt), .val (.int zs), .val (.int zc1), .val (.int zc2), .val (.int zc3), .val (.int zd1), .val (.int zd2), .val (.int zd3), .unset, .unset, .unset, .unset] [(.int zc3), (.int zc2), (.int zc1), (.int zt)])) _
      refine XS.i2c X408.here hx rfl (hb hby at_148) rfl ?_
      exact k
    rw [show zc3.toUInt32.toUInt16.toUInt32.toInt32 = zc3 from own_i2c _ hr_zc3] at k419
    obtain ⟨_, _, ⟨T420, L420, k420, n420⟩, -, X420, hS2, hg2, ⟨Lc420, hQ420, l420, y420, z420, hC420⟩, st420⟩ := callSS X408 hx (y := (⟨"com/example/oyster/oyster/engine/TokenIsSymbolPinLaw", "make", "(ICCC)Ljava/lang/String;"⟩ : MethodName)) hown (mvT hZ (hw _ (List.mem_of_getElem? (i := 4) rfl))) (mvT hZ (hw _ (List.mem_of_getElem? (i := 5) rfl))) (mvT hZ (hw _ (List.mem_of_getElem? (i := 6) rfl))) (mvT hZ (hw _ (List.mem_of_getElem? (i := 7) rfl))) (by decide) (backOfSH (W := 0) (rm3 l Z a0 hw [] hEL wS zt zc1 zc2 zc3 cs h0 n0 Z0 Sc hcs hr_zc1.1 hr_zc1.2 hr_zc2.1 hr_zc2.2 hr_zc3.1 hr_zc3.2) hZ (hw _ (List.mem_of_getElem? (i := 7) rfl)) (hw _ (List.mem_of_getElem? (i := 6) rfl)) (by decide) (by decide) hEL hCR.1) (g := (mkF m 149 #[.val (.int p0_0), .val (.int p0_1), .val (.int p0_2), .val (.int p0_3), .val (.int (3 : Int32)), .val (.ref u_SYMBOL), .val (.int zt), .val (.int zs), .val (.int zc1), .val (.int zc2), .val (.int zc3), .val (.int zd1), .val (.int zd2), .val (.int zd3), .unset, .unset, .unset, .unset] [(.int zc3), (.int zc2), (.int zc1), (.int zt)])) rfl (by rw [hml]; rfl) (argsL := [(.int zt), (.int zc1), (.int zc2), (.int zc3)]) (rest := []) (lenOf pd_4 rfl) rfl (by show 2 * 0 + _ ≤ _; exact Nat.le_of_eq rfl) (hb hby at_149) (fun _ _ => ⟨rfl, e408, (by decide : 0 + 6 ≤ _), (by decide : 0 + 12 ≤ _)⟩)
    dsimp only [Pt.U, Pt.locs, Pt.cells, Pt.slots] at X420 hS2 hg2 hC420 l420 y420 z420 st420 hQ420
    subst l420 y420 z420
    obtain ⟨X420, hS, hZ, hown⟩ := rebS hS (by rw [e408]; exact hk) X420 hS2 hg2 hZ hown
    have hk := Nat.le_refl T420.heap.size
    have hCR := hCR.trans hC420
    obtain ⟨x3_420, d3_420, kv3_420, rfl, N420q, Kc420, ggx3_420, szx3_420, G420_0, G420_1, G420_2, G420_3⟩ := hQ420
    have ne421 : u_NUMBER ≠ x3_420 := Nat.ne_of_lt (Nat.lt_of_lt_of_le E_u_NUMBER.lt szx3_420)
    have ne422 : u_SYMBOL ≠ x3_420 := Nat.ne_of_lt (Nat.lt_of_lt_of_le E_u_SYMBOL.lt szx3_420)
    have ne423 : u_NAME ≠ x3_420 := Nat.ne_of_lt (Nat.lt_of_lt_of_le E_u_NAME.lt szx3_420)
    have ne424 : u_END ≠ x3_420 := Nat.ne_of_lt (Nat.lt_of_lt_of_le E_u_END.lt szx3_420)
    have ne425 : u_STRING ≠ x3_420 := Nat.ne_of_lt (Nat.lt_of_lt_of_le E_u_STRING.lt szx3_420)
    have Zs420 : n0 ≤ T420.heap.size := Nat.le_trans Z0 Kc420.1
    have F426 : Sta Z T420.heap "com/example/oyster/oyster/engine/Tokens$Kind" "NUMBER" "Lcom/example/oyster/oyster/engine/Tokens$Kind;" (.ref u_NUMBER) := own_stakeep S_NUMBER Kc420 all0
    have F427 : Exa Z T420.heap u_NUMBER "com/example/oyster/oyster/engine/Tokens$Kind" := E_u_NUMBER.keep Kc420
    have F428 : Sta Z T420.heap "com/example/oyster/oyster/engine/Tokens$Kind" "SYMBOL" "Lcom/example/oyster/oyster/engine/Tokens$Kind;" (.ref u_SYMBOL) := own_stakeep S_SYMBOL Kc420 all0
    have F429 : Exa Z T420.heap u_SYMBOL "com/example/oyster/oyster/engine/Tokens$Kind" := E_u_SYMBOL.keep Kc420
    have F430 : Fld Z T420.heap u_NUMBER "java/lang/Enum" "ordinal" "I" (.int (0 : Int32)) := F_u_NUMBER_ordinal.keep Kc420 nin0
    have F431 : Fld Z T420.heap u_SYMBOL "java/lang/Enum" "ordinal" "I" (.int (3 : Int32)) := F_u_SYMBOL_ordinal.keep Kc420 nin0
    have F432 : Sta Z T420.heap "com/example/oyster/oyster/engine/Tokens$Kind" "NAME" "Lcom/example/oyster/oyster/engine/Tokens$Kind;" (.ref u_NAME) := own_stakeep S_NAME Kc420 all0
    have F433 : Exa Z T420.heap u_NAME "com/example/oyster/oyster/engine/Tokens$Kind" := E_u_NAME.keep Kc420
    have F434 : Fld Z T420.heap u_NAME "java/lang/Enum" "ordinal" "I" (.int (2 : Int32)) := F_u_NAME_ordinal.keep Kc420 nin0
    have F435 : Sta Z T420.heap "com/example/oyster/oyster/engine/Tokens$Kind" "END" "Lcom/example/oyster/oyster/engine/Tokens$Kind;" (.ref u_END) := own_stakeep S_END Kc420 all0
    have F436 : Exa Z T420.heap u_END "com/example/oyster/oyster/engine/Tokens$Kind" := E_u_END.keep Kc420
    have F437 : Fld Z T420.heap u_END "java/lang/Enum" "ordinal" "I" (.int (4 : Int32)) := F_u_END_ordinal.keep Kc420 nin0
    have F438 : Sta Z T420.heap "com/example/oyster/oyster/engine/Tokens$Kind" "STRING" "Lcom/example/oyster/oyster/engine/Tokens$Kind;" (.ref u_STRING) := own_stakeep S_STRING Kc420 all0
    have F439 : Exa Z T420.heap u_STRING "com/example/oyster/oyster/engine/Tokens$Kind" := E_u_STRING.keep Kc420
    have F440 : Fld Z T420.heap u_STRING "java/lang/Enum" "ordinal" "I" (.int (1 : Int32)) := F_u_STRING_ordinal.keep Kc420 nin0
    have F441 : Sta Z T420.heap "java/lang/String" "COMPACT_STRINGS" "Z" (.int cs) := own_stakeep Sc Kc420 all0
    have N420 := Fr.app N0 N420q
    have k442 : ∀ t, Steps p.tables e below (T420.setTop (mkF m 161 #[.val (.int p0_0), .val (.int p0_1), .val (.int p0_2), .val (.int p0_3), .val (.int (3 : Int32)), .val (.ref u_SYMBOL), .val (.int zt), .val (.int zs), .val (.int zc1), .val (.int zc2), .val (.int zc3), .val (.int zd1), .val (.int zd2), .val (.int zd3), .val (.ref x3_420), .unset, .unset, .unset] [(.int (zc1 ^^^ zd1)), (.int zs)])) t → Steps p.tables e below (s₁.setTop (entryFrame m #[(.int p0_0), (.int p0_1), (.int p0_2), (.int p0_3)] maxLocals)) t := by
      intro t k
      refine k419 t ?_
      show Steps p.tables e below (T408.setTop (mkF m 149 #[.val (.int p0_0), .val (.int p0_1), .val (.int p0_2), .val (.int p0_3), .val (.int (3 : Int32)), .val (.ref u_SYMBOL), .val (.int zt), .val (.int zs), .val (.int zc1), .val (.int zc2), .val (.int zc3), .val (.int zd1), .val (.int zd2), .val (.int zd3), .unset, .unset, .unset, .unset] [(.int zc3), (.int zc2), (.int zc1), (.int zt)])) _
      refine st420.trans ?_
      show Steps p.tables e below (T420.setTop (mkF m 152 #[.val (.int p0_0), .val (.int p0_1), .val (.int p0_2), .val (.int p0_3), .val (.int (3 : Int32)), .val (.ref u_SYMBOL), .val (.int zt), .val (.int zs), .val (.int zc1), .val (.int zc2), .val (.int zc3), .val (.int zd1), .val (.int zd2), .val (.int zd3), .unset, .unset, .unset, .unset] [(.ref x3_420)])) _
      refine XS.astore X420.here hx rfl (hb hby at_152) rfl rfl (l' := #[.val (.int p0_0), .val (.int p0_1), .val (.int p0_2), .val (.int p0_3), .val (.int (3 : Int32)), .val (.ref u_SYMBOL), .val (.int zt), .val (.int zs), .val (.int zc1), .val (.int zc2), .val (.int zc3), .val (.int zd1), .val (.int zd2), .val (.int zd3), .val (.ref x3_420), .unset, .unset, .unset]) rfl ?_
      show Steps p.tables e below (T420.setTop (mkF m 154 #[.val (.int p0_0), .val (.int p0_1), .val (.int p0_2), .val (.int p0_3), .val (.int (3 : Int32)), .val (.ref u_SYMBOL), .val (.int zt), .val (.int zs), .val (.int zc1), .val (.int zc2), .val (.int zc3), .val (.int zd1), .val (.int zd2), .val (.int zd3), .val (.ref x3_420), .unset, .unset, .unset] [])) _
      refine XS.iload X420.here hx rfl (hb hby at_154) rfl ?_
      show Steps p.tables e below (T420.setTop (mkF m 156 #[.val (.int p0_0), .val (.int p0_1), .val (.int p0_2), .val (.int p0_3), .val (.int (3 : Int32)), .val (.ref u_SYMBOL), .val (.int zt), .val (.int zs), .val (.int zc1), .val (.int zc2), .val (.int zc3), .val (.int zd1), .val (.int zd2), .val (.int zd3), .val (.ref x3_420), .unset, .unset, .unset] [(.int zs)])) _
      refine XS.iload X420.here hx rfl (hb hby at_156) rfl ?_
      show Steps p.tables e below (T420.setTop (mkF m 158 #[.val (.int p0_0), .val (.int p0_1), .val (.int p0_2), .val (.int p0_3), .val (.int (3 : Int32)), .val (.ref u_SYMBOL), .val (.int zt), .val (.int zs), .val (.int zc1), .val (.int zc2), .val (.int zc3), .val (.int zd1), .val (.int zd2), .val (.int zd3), .val (.ref x3_420), .unset, .unset, .unset] [(.int zc1), (.int zs)])) _
      refine XS.iload X420.here hx rfl (hb hby at_158) rfl ?_
      show Steps p.tables e below (T420.setTop (mkF m 160 #[.val (.int p0_0), .val (.int p0_1), .val (.int p0_2), .val (.int p0_3), .val (.int (3 : Int32)), .val (.ref u_SYMBOL), .val (.int zt), .val (.int zs), .val (.int zc1), .val (.int zc2), .val (.int zc3), .val (.int zd1), .val (.int zd2), .val (.int zd3), .val (.ref x3_420), .unset, .unset, .unset] [(.int zd1), (.int zc1), (.int zs)])) _
      refine XS.ixor X420.here hx rfl (hb hby at_160) rfl ?_
      exact k
    obtain ⟨zx1, hzx1⟩ : ∃ z, z = (zc1 ^^^ zd1) := ⟨_, rfl⟩
    rw [← hzx1] at k442
    have hr_zx1 : ¬ (zx1 < (0 : Int32)) ∧ ¬ ((255 : Int32) < zx1) := by rw [hzx1]; exact own_xorr _ _ hr_zc1 hr_zd1
    have k443 : ∀ t, Steps p.tables e below (T420.setTop (mkF m 162 #[.val (.int p0_0), .val (.int p0_1), .val (.int p0_2), .val (.int p0_3), .val (.int (3 : Int32)), .val (.ref u_SYMBOL), .val (.int zt), .val (.int zs), .val (.int zc1), .val (.int zc2), .val (.int zc3), .val (.int zd1), .val (.int zd2), .val (.int zd3), .val (.ref x3_420), .unset, .unset, .unset] [(.int zx1.toUInt32.toUInt16.toUInt32.toInt32), (.int zs)])) t → Steps p.tables e below (s₁.setTop (entryFrame m #[(.int p0_0), (.int p0_1), (.int p0_2), (.int p0_3)] maxLocals)) t := by
      intro t k
      refine k442 t ?_
      show Steps p.tables e below (T420.setTop (mkF m 161 #[.val (.int p0_0), .val (.int p0_1), .val (.int p0_2), .val (.int p0_3), .val (.int (3 : Int32)), .val (.ref u_SYMBOL), .val (.int zt), .val (.int zs), .val (.int zc1), .val (.int zc2), .val (.int zc3), .val (.int zd1), .val (.int zd2), .val (.int zd3), .val (.ref x3_420), .unset, .unset, .unset] [(.int zx1), (.int zs)])) _
      refine XS.i2c X420.here hx rfl (hb hby at_161) rfl ?_
      exact k
    rw [show zx1.toUInt32.toUInt16.toUInt32.toInt32 = zx1 from own_i2c _ hr_zx1] at k443
    have k444 : ∀ t, Steps p.tables e below (T420.setTop (mkF m 167 #[.val (.int p0_0), .val (.int p0_1), .val (.int p0_2), .val (.int p0_3), .val (.int (3 : Int32)), .val (.ref u_SYMBOL), .val (.int zt), .val (.int zs), .val (.int zc1), .val (.int zc2), .val (.int zc3), .val (.int zd1), .val (.int zd2), .val (.int zd3), .val (.ref x3_420), .unset, .unset, .unset] [(.int (zc2 ^^^ zd2)), (.int zx1), (.int zs)])) t → Steps p.tables e below (s₁.setTop (entryFrame m #[(.int p0_0), (.int p0_1), (.int p0_2), (.int p0_3)] maxLocals)) t := by
      intro t k
      refine k443 t ?_
      show Steps p.tables e below (T420.setTop (mkF m 162 #[.val (.int p0_0), .val (.int p0_1), .val (.int p0_2), .val (.int p0_3), .val (.int (3 : Int32)), .val (.ref u_SYMBOL), .val (.int zt), .val (.int zs), .val (.int zc1), .val (.int zc2), .val (.int zc3), .val (.int zd1), .val (.int zd2), .val (.int zd3), .val (.ref x3_420), .unset, .unset, .unset] [(.int zx1), (.int zs)])) _
      refine XS.iload X420.here hx rfl (hb hby at_162) rfl ?_
      show Steps p.tables e below (T420.setTop (mkF m 164 #[.val (.int p0_0), .val (.int p0_1), .val (.int p0_2), .val (.int p0_3), .val (.int (3 : Int32)), .val (.ref u_SYMBOL), .val (.int zt), .val (.int zs), .val (.int zc1), .val (.int zc2), .val (.int zc3), .val (.int zd1), .val (.int zd2), .val (.int zd3), .val (.ref x3_420), .unset, .unset, .unset] [(.int zc2), (.int zx1), (.int zs)])) _
      refine XS.iload X420.here hx rfl (hb hby at_164) rfl ?_
      show Steps p.tables e below (T420.setTop (mkF m 166 #[.val (.int p0_0), .val (.int p0_1), .val (.int p0_2), .val (.int p0_3), .val (.int (3 : Int32)), .val (.ref u_SYMBOL), .val (.int zt), .val (.int zs), .val (.int zc1), .val (.int zc2), .val (.int zc3), .val (.int zd1), .val (.int zd2), .val (.int zd3), .val (.ref x3_420), .unset, .unset, .unset] [(.int zd2), (.int zc2), (.int zx1), (.int zs)])) _
      refine XS.ixor X420.here hx rfl (hb hby at_166) rfl ?_
      exact k
    obtain ⟨zx2, hzx2⟩ : ∃ z, z = (zc2 ^^^ zd2) := ⟨_, rfl⟩
    rw [← hzx2] at k444
    have hr_zx2 : ¬ (zx2 < (0 : Int32)) ∧ ¬ ((255 : Int32) < zx2) := by rw [hzx2]; exact own_xorr _ _ hr_zc2 hr_zd2
    have k445 : ∀ t, Steps p.tables e below (T420.setTop (mkF m 168 #[.val (.int p0_0), .val (.int p0_1), .val (.int p0_2), .val (.int p0_3), .val (.int (3 : Int32)), .val (.ref u_SYMBOL), .val (.int zt), .val (.int zs), .val (.int zc1), .val (.int zc2), .val (.int zc3), .val (.int zd1), .val (.int zd2), .val (.int zd3), .val (.ref x3_420), .unset, .unset, .unset] [(.int zx2.toUInt32.toUInt16.toUInt32.toInt32), (.int zx1), (.int zs)])) t → Steps p.tables e below (s₁.setTop (entryFrame m #[(.int p0_0), (.int p0_1), (.int p0_2), (.int p0_3)] maxLocals)) t := by
      intro t k
      refine k444 t ?_
      show Steps p.tables e below (T420.setTop (mkF m 167 #[.val (.int p0_0), .val (.int p0_1), .val (.int p0_2), .val (.int p0_3), .val (.int (3 : Int32)), .val (.ref u_SYMBOL), .val (.int zt), .val (.int zs), .val (.int zc1), .val (.int zc2), .val (.int zc3), .val (.int zd1), .val (.int zd2), .val (.int zd3), .val (.ref x3_420), .unset, .unset, .unset] [(.int zx2), (.int zx1), (.int zs)])) _
      refine XS.i2c X420.here hx rfl (hb hby at_167) rfl ?_
      exact k
    rw [show zx2.toUInt32.toUInt16.toUInt32.toInt32 = zx2 from own_i2c _ hr_zx2] at k445
    have k446 : ∀ t, Steps p.tables e below (T420.setTop (mkF m 173 #[.val (.int p0_0), .val (.int p0_1), .val (.int p0_2), .val (.int p0_3), .val (.int (3 : Int32)), .val (.ref u_SYMBOL), .val (.int zt), .val (.int zs), .val (.int zc1), .val (.int zc2), .val (.int zc3), .val (.int zd1), .val (.int zd2), .val (.int zd3), .val (.ref x3_420), .unset, .unset, .unset] [(.int (zc3 ^^^ zd3)), (.int zx2), (.int zx1), (.int zs)])) t → Steps p.tables e below (s₁.setTop (entryFrame m #[(.int p0_0), (.int p0_1), (.int p0_2), (.int p0_3)] maxLocals)) t := by
      intro t k
      refine k445 t ?_
      show Steps p.tables e below (T420.setTop (mkF m 168 #[.val (.int p0_0), .val (.int p0_1), .val (.int p0_2), .val (.int p0_3), .val (.int (3 : Int32)), .val (.ref u_SYMBOL), .val (.int zt), .val (.int zs), .val (.int zc1), .val (.int zc2), .val (.int zc3), .val (.int zd1), .val (.int zd2), .val (.int zd3), .val (.ref x3_420), .unset, .unset, .unset] [(.int zx2), (.int zx1), (.int zs)])) _
      refine XS.iload X420.here hx rfl (hb hby at_168) rfl ?_
      show Steps p.tables e below (T420.setTop (mkF m 170 #[.val (.int p0_0), .val (.int p0_1), .val (.int p0_2), .val (.int p0_3), .val (.int (3 : Int32)), .val (.ref u_SYMBOL), .val (.int zt), .val (.int zs), .val (.int zc1), .val (.int zc2), .val (.int zc3), .val (.int zd1), .val (.int zd2), .val (.int zd3), .val (.ref x3_420), .unset, .unset, .unset] [(.int zc3), (.int zx2), (.int zx1), (.int zs)])) _
      refine XS.iload X420.here hx rfl (hb hby at_170) rfl ?_
      show Steps p.tables e below (T420.setTop (mkF m 172 #[.val (.int p0_0), .val (.int p0_1), .val (.int p0_2), .val (.int p0_3), .val (.int (3 : Int32)), .val (.ref u_SYMBOL), .val (.int zt), .val (.int zs), .val (.int zc1), .val (.int zc2), .val (.int zc3), .val (.int zd1), .val (.int zd2), .val (.int zd3), .val (.ref x3_420), .unset, .unset, .unset] [(.int zd3), (.int zc3), (.int zx2), (.int zx1), (.int zs)])) _
      refine XS.ixor X420.here hx rfl (hb hby at_172) rfl ?_
      exact k
    obtain ⟨zx3, hzx3⟩ : ∃ z, z = (zc3 ^^^ zd3) := ⟨_, rfl⟩
    rw [← hzx3] at k446
    have hr_zx3 : ¬ (zx3 < (0 : Int32)) ∧ ¬ ((255 : Int32) < zx3) := by rw [hzx3]; exact own_xorr _ _ hr_zc3 hr_zd3
    have k447 : ∀ t, Steps p.tables e below (T420.setTop (mkF m 174 #[.val (.int p0_0), .val (.int p0_1), .val (.int p0_2), .val (.int p0_3), .val (.int (3 : Int32)), .val (.ref u_SYMBOL), .val (.int zt), .val (.int zs), .val (.int zc1), .val (.int zc2), .val (.int zc3), .val (.int zd1), .val (.int zd2), .val (.int zd3), .val (.ref x3_420), .unset, .unset, .unset] [(.int zx3.toUInt32.toUInt16.toUInt32.toInt32), (.int zx2), (.int zx1), (.int zs)])) t → Steps p.tables e below (s₁.setTop (entryFrame m #[(.int p0_0), (.int p0_1), (.int p0_2), (.int p0_3)] maxLocals)) t := by
      intro t k
      refine k446 t ?_
      show Steps p.tables e below (T420.setTop (mkF m 173 #[.val (.int p0_0), .val (.int p0_1), .val (.int p0_2), .val (.int p0_3), .val (.int (3 : Int32)), .val (.ref u_SYMBOL), .val (.int zt), .val (.int zs), .val (.int zc1), .val (.int zc2), .val (.int zc3), .val (.int zd1), .val (.int zd2), .val (.int zd3), .val (.ref x3_420), .unset, .unset, .unset] [(.int zx3), (.int zx2), (.int zx1), (.int zs)])) _
      refine XS.i2c X420.here hx rfl (hb hby at_173) rfl ?_
      exact k
    rw [show zx3.toUInt32.toUInt16.toUInt32.toInt32 = zx3 from own_i2c _ hr_zx3] at k447
    obtain ⟨_, _, ⟨T448, L448, k448, n448⟩, -, X448, hS2, hg2, ⟨Lc448, hQ448, l448, y448, z448, hC448⟩, st448⟩ := callSS X420 hx (y := (⟨"com/example/oyster/oyster/engine/TokenIsSymbolPinLaw", "make", "(ICCC)Ljava/lang/String;"⟩ : MethodName)) hown (mvT hZ (hw _ (List.mem_of_getElem? (i := 4) rfl))) (mvT hZ (hw _ (List.mem_of_getElem? (i := 5) rfl))) (mvT hZ (hw _ (List.mem_of_getElem? (i := 6) rfl))) (mvT hZ (hw _ (List.mem_of_getElem? (i := 7) rfl))) (by decide) (backOfSH (W := 0) (rm3 l Z a0 hw [] hEL wS zs zx1 zx2 zx3 cs T420.heap n0 Zs420 F441 hcs hr_zx1.1 hr_zx1.2 hr_zx2.1 hr_zx2.2 hr_zx3.1 hr_zx3.2) hZ (hw _ (List.mem_of_getElem? (i := 7) rfl)) (hw _ (List.mem_of_getElem? (i := 6) rfl)) (by decide) (by decide) hEL hCR.1) (g := (mkF m 174 #[.val (.int p0_0), .val (.int p0_1), .val (.int p0_2), .val (.int p0_3), .val (.int (3 : Int32)), .val (.ref u_SYMBOL), .val (.int zt), .val (.int zs), .val (.int zc1), .val (.int zc2), .val (.int zc3), .val (.int zd1), .val (.int zd2), .val (.int zd3), .val (.ref x3_420), .unset, .unset, .unset] [(.int zx3), (.int zx2), (.int zx1), (.int zs)])) rfl (by rw [hml]; rfl) (argsL := [(.int zs), (.int zx1), (.int zx2), (.int zx3)]) (rest := []) (lenOf pd_4 rfl) rfl (by show 2 * 0 + _ ≤ _; exact Nat.le_of_eq rfl) (hb hby at_174) (fun _ _ => ⟨rfl, rfl, (by decide : 6 + 6 ≤ _), (by decide : 12 + 12 ≤ _)⟩)
    dsimp only [Pt.U, Pt.locs, Pt.cells, Pt.slots] at X448 hS2 hg2 hC448 l448 y448 z448 st448 hQ448
    subst l448 y448 z448
    obtain ⟨X448, hS, hZ, hown⟩ := rebS hS hk X448 hS2 hg2 hZ hown
    have hk := Nat.le_refl T448.heap.size
    have hCR := hCR.trans hC448
    obtain ⟨x3_448, d3_448, kv3_448, rfl, N448q, Kc448, ggx3_448, szx3_448, G448_0, G448_1, G448_2, G448_3⟩ := hQ448
    have ne449 : u_NUMBER ≠ x3_448 := Nat.ne_of_lt (Nat.lt_of_lt_of_le F427.lt szx3_448)
    have ne450 : u_SYMBOL ≠ x3_448 := Nat.ne_of_lt (Nat.lt_of_lt_of_le F429.lt szx3_448)
    have ne451 : u_NAME ≠ x3_448 := Nat.ne_of_lt (Nat.lt_of_lt_of_le F433.lt szx3_448)
    have ne452 : u_END ≠ x3_448 := Nat.ne_of_lt (Nat.lt_of_lt_of_le F436.lt szx3_448)
    have ne453 : u_STRING ≠ x3_448 := Nat.ne_of_lt (Nat.lt_of_lt_of_le F439.lt szx3_448)
    have ne454 : x3_420 ≠ x3_448 := Nat.ne_of_lt (Nat.lt_of_lt_of_le G420_0.lt szx3_448)
    have ne455 : d3_420 ≠ x3_448 := Nat.ne_of_lt (Nat.lt_of_lt_of_le G420_3.lt szx3_448)
    have Zs448 : n0 ≤ T448.heap.size := Nat.le_trans Zs420 Kc448.1
    have F456 : Sta Z T448.heap "com/example/oyster/oyster/engine/Tokens$Kind" "NUMBER" "Lcom/example/oyster/oyster/engine/Tokens$Kind;" (.ref u_NUMBER) := own_stakeep F426 Kc448 all0
    have F457 : Exa Z T448.heap u_NUMBER "com/example/oyster/oyster/engine/Tokens$Kind" := F427.keep Kc448
    have F458 : Sta Z T448.heap "com/example/oyster/oyster/engine/Tokens$Kind" "SYMBOL" "Lcom/example/oyster/oyster/engine/Tokens$Kind;" (.ref u_SYMBOL) := own_stakeep F428 Kc448 all0
    have F459 : Exa Z T448.heap u_SYMBOL "com/example/oyster/oyster/engine/Tokens$Kind" := F429.keep Kc448
    have F460 : Fld Z T448.heap u_NUMBER "java/lang/Enum" "ordinal" "I" (.int (0 : Int32)) := F430.keep Kc448 nin0
    have F461 : Fld Z T448.heap u_SYMBOL "java/lang/Enum" "ordinal" "I" (.int (3 : Int32)) := F431.keep Kc448 nin0
    have F462 : Sta Z T448.heap "com/example/oyster/oyster/engine/Tokens$Kind" "NAME" "Lcom/example/oyster/oyster/engine/Tokens$Kind;" (.ref u_NAME) := own_stakeep F432 Kc448 all0
    have F463 : Exa Z T448.heap u_NAME "com/example/oyster/oyster/engine/Tokens$Kind" := F433.keep Kc448
    have F464 : Fld Z T448.heap u_NAME "java/lang/Enum" "ordinal" "I" (.int (2 : Int32)) := F434.keep Kc448 nin0
    have F465 : Sta Z T448.heap "com/example/oyster/oyster/engine/Tokens$Kind" "END" "Lcom/example/oyster/oyster/engine/Tokens$Kind;" (.ref u_END) := own_stakeep F435 Kc448 all0
    have F466 : Exa Z T448.heap u_END "com/example/oyster/oyster/engine/Tokens$Kind" := F436.keep Kc448
    have F467 : Fld Z T448.heap u_END "java/lang/Enum" "ordinal" "I" (.int (4 : Int32)) := F437.keep Kc448 nin0
    have F468 : Sta Z T448.heap "com/example/oyster/oyster/engine/Tokens$Kind" "STRING" "Lcom/example/oyster/oyster/engine/Tokens$Kind;" (.ref u_STRING) := own_stakeep F438 Kc448 all0
    have F469 : Exa Z T448.heap u_STRING "com/example/oyster/oyster/engine/Tokens$Kind" := F439.keep Kc448
    have F470 : Fld Z T448.heap u_STRING "java/lang/Enum" "ordinal" "I" (.int (1 : Int32)) := F440.keep Kc448 nin0
    have F471 : Sta Z T448.heap "java/lang/String" "COMPACT_STRINGS" "Z" (.int cs) := own_stakeep F441 Kc448 all0
    have F472 : Exa Z T448.heap x3_420 "java/lang/String" := G420_0.keep Kc448
    have F473 : Fld Z T448.heap x3_420 "java/lang/String" "value" "[B" (.ref d3_420) := G420_1.keep Kc448 nin0
    have F474 : Fld Z T448.heap x3_420 "java/lang/String" "coder" "B" (.int (0 : Int32)) := G420_2.keep Kc448 nin0
    have F475 : Arv Z T448.heap d3_420 kv3_420 .byte (Int32.ofNat (own_mk zt zc1 zc2 zc3).length) (List.map Value.int (List.map (fun c => c.toInt8.toInt32) (own_mk zt zc1 zc2 zc3))) (.int (0 : Int32)) := G420_3.keep Kc448 nin0
    have N448 := Fr.app N420 N448q
    obtain ⟨b476, g476⟩ : ∃ z, z = T448.heap.size := ⟨_, rfl⟩
    obtain ⟨T476, h476, X476, e476, E476, A476, D476, -, st476⟩ := newO X448 hx hZ hown (hw _ (List.mem_of_getElem? (i := 38) rfl)) (hw _ (List.mem_of_getElem? (i := 39) rfl)) (hw _ (List.mem_of_getElem? (i := 40) rfl)) rfl (g := (mkF m 179 #[.val (.int p0_0), .val (.int p0_1), .val (.int p0_2), .val (.int p0_3), .val (.int (3 : Int32)), .val (.ref u_SYMBOL), .val (.int zt), .val (.int zs), .val (.int zc1), .val (.int zc2), .val (.int zc3), .val (.int zd1), .val (.int zd2), .val (.int zd3), .val (.ref x3_420), .val (.ref x3_448), .unset, .unset] [])) rfl (hb hby at_179) (by decide) (by decide)
    rw [← g476] at A476 D476 st476
    have ne477 : u_NUMBER ≠ b476 := Nat.ne_of_lt (Nat.lt_of_lt_of_le F457.lt (Nat.le_of_eq g476.symm))
    have ne478 : u_SYMBOL ≠ b476 := Nat.ne_of_lt (Nat.lt_of_lt_of_le F459.lt (Nat.le_of_eq g476.symm))
    have ne479 : u_NAME ≠ b476 := Nat.ne_of_lt (Nat.lt_of_lt_of_le F463.lt (Nat.le_of_eq g476.symm))
    have ne480 : u_END ≠ b476 := Nat.ne_of_lt (Nat.lt_of_lt_of_le F466.lt (Nat.le_of_eq g476.symm))
    have ne481 : u_STRING ≠ b476 := Nat.ne_of_lt (Nat.lt_of_lt_of_le F469.lt (Nat.le_of_eq g476.symm))
    have ne482 : x3_420 ≠ b476 := Nat.ne_of_lt (Nat.lt_of_lt_of_le F472.lt (Nat.le_of_eq g476.symm))
    have ne483 : d3_420 ≠ b476 := Nat.ne_of_lt (Nat.lt_of_lt_of_le F475.lt (Nat.le_of_eq g476.symm))
    have ne484 : x3_448 ≠ b476 := Nat.ne_of_lt (Nat.lt_of_lt_of_le G448_0.lt (Nat.le_of_eq g476.symm))
    have ne485 : d3_448 ≠ b476 := Nat.ne_of_lt (Nat.lt_of_lt_of_le G448_3.lt (Nat.le_of_eq g476.symm))
    have sfn476 := Safe.new (Z := Z) (EL := consts_1) (vm := T448.vm) (Nat.le_of_eq g476.symm)
    have sf486 := Safe.ext E476 hCR.1 sfn476
    have hCR := hCR.trans (CHr.ext E476 hCR.1)
    have hk := Nat.le_trans hk E476.1
    have gg476 : n0 ≤ b476 := Nat.le_trans Zs448 (Nat.le_of_eq g476.symm)
    have Zs476 : n0 ≤ h476.size := Nat.le_trans Zs448 E476.1
    have F487 : Sta Z h476 "com/example/oyster/oyster/engine/Tokens$Kind" "NUMBER" "Lcom/example/oyster/oyster/engine/Tokens$Kind;" (.ref u_NUMBER) := F456.ext E476
    have F488 : Exa Z h476 u_NUMBER "com/example/oyster/oyster/engine/Tokens$Kind" := F457.ext E476
    have F489 : Sta Z h476 "com/example/oyster/oyster/engine/Tokens$Kind" "SYMBOL" "Lcom/example/oyster/oyster/engine/Tokens$Kind;" (.ref u_SYMBOL) := F458.ext E476
    have F490 : Exa Z h476 u_SYMBOL "com/example/oyster/oyster/engine/Tokens$Kind" := F459.ext E476
    have F491 : Fld Z h476 u_NUMBER "java/lang/Enum" "ordinal" "I" (.int (0 : Int32)) := F460.ext E476
    have F492 : Fld Z h476 u_SYMBOL "java/lang/Enum" "ordinal" "I" (.int (3 : Int32)) := F461.ext E476
    have F493 : Sta Z h476 "com/example/oyster/oyster/engine/Tokens$Kind" "NAME" "Lcom/example/oyster/oyster/engine/Tokens$Kind;" (.ref u_NAME) := F462.ext E476
    have F494 : Exa Z h476 u_NAME "com/example/oyster/oyster/engine/Tokens$Kind" := F463.ext E476
    have F495 : Fld Z h476 u_NAME "java/lang/Enum" "ordinal" "I" (.int (2 : Int32)) := F464.ext E476
    have F496 : Sta Z h476 "com/example/oyster/oyster/engine/Tokens$Kind" "END" "Lcom/example/oyster/oyster/engine/Tokens$Kind;" (.ref u_END) := F465.ext E476
    have F497 : Exa Z h476 u_END "com/example/oyster/oyster/engine/Tokens$Kind" := F466.ext E476
    have F498 : Fld Z h476 u_END "java/lang/Enum" "ordinal" "I" (.int (4 : Int32)) := F467.ext E476
    have F499 : Sta Z h476 "com/example/oyster/oyster/engine/Tokens$Kind" "STRING" "Lcom/example/oyster/oyster/engine/Tokens$Kind;" (.ref u_STRING) := F468.ext E476
    have F500 : Exa Z h476 u_STRING "com/example/oyster/oyster/engine/Tokens$Kind" := F469.ext E476
    have F501 : Fld Z h476 u_STRING "java/lang/Enum" "ordinal" "I" (.int (1 : Int32)) := F470.ext E476
    have F502 : Sta Z h476 "java/lang/String" "COMPACT_STRINGS" "Z" (.int cs) := F471.ext E476
    have F503 : Exa Z h476 x3_420 "java/lang/String" := F472.ext E476
    have F504 : Fld Z h476 x3_420 "java/lang/String" "value" "[B" (.ref d3_420) := F473.ext E476
    have F505 : Fld Z h476 x3_420 "java/lang/String" "coder" "B" (.int (0 : Int32)) := F474.ext E476
    have F506 : Arv Z h476 d3_420 kv3_420 .byte (Int32.ofNat (own_mk zt zc1 zc2 zc3).length) (List.map Value.int (List.map (fun c => c.toInt8.toInt32) (own_mk zt zc1 zc2 zc3))) (.int (0 : Int32)) := F475.ext E476
    have F507 : Exa Z h476 x3_448 "java/lang/String" := G448_0.ext E476
    have F508 : Fld Z h476 x3_448 "java/lang/String" "value" "[B" (.ref d3_448) := G448_1.ext E476
    have F509 : Fld Z h476 x3_448 "java/lang/String" "coder" "B" (.int (0 : Int32)) := G448_2.ext E476
    have F510 : Arv Z h476 d3_448 kv3_448 .byte (Int32.ofNat (own_mk zs zx1 zx2 zx3).length) (List.map Value.int (List.map (fun c => c.toInt8.toInt32) (own_mk zs zx1 zx2 zx3))) (.int (0 : Int32)) := G448_3.ext E476
    have F511 : Fld Z h476 b476 "com/example/oyster/oyster/engine/Tokens$Token" "kind" "Lcom/example/oyster/oyster/engine/Tokens$Kind;" .null := D476 (Or.inr (hw _ (List.mem_of_getElem? (i := 51) rfl))) (ty := (.object "com/example/oyster/oyster/engine/Tokens$Kind")) (by decide)
    have F512 : Fld Z h476 b476 "com/example/oyster/oyster/engine/Tokens$Token" "text" "Ljava/lang/String;" .null := D476 (Or.inr (hw _ (List.mem_of_getElem? (i := 53) rfl))) (ty := (.object "java/lang/String")) (by decide)
    have F513 : Fld Z h476 b476 "com/example/oyster/oyster/engine/Tokens$Token" "column" "I" (.int (0 : Int32)) := D476 (Or.inr (hw _ (List.mem_of_getElem? (i := 55) rfl))) (ty := .int) (by decide)
    obtain ⟨_, _, ⟨T514, L514, k514, n514⟩, -, X514, ⟨Lc514, hQ514, l514, y514, z514⟩, st514⟩ := X476.specialBack hx (y := (⟨"com/example/oyster/oyster/engine/Tokens$Token", "<init>", "(Lcom/example/oyster/oyster/engine/Tokens$Kind;Ljava/lang/String;I)V"⟩ : MethodName)) rfl hown (mvT hZ (hw _ (List.mem_of_getElem? (i := 41) rfl))) (mvT hZ (hw _ (List.mem_of_getElem? (i := 42) rfl))) (mvT hZ (hw _ (List.mem_of_getElem? (i := 43) rfl))) (by decide) (backOf (W := 1) (rm6 l Z a0 hw [] b476 u_SYMBOL x3_420 p0_3 h476 n0 Zs476 A476 F511 F512 F513 gg476) hZ (hw _ (List.mem_of_getElem? (i := 43) rfl)) (hw _ (List.mem_of_getElem? (i := 40) rfl)) (by decide) (by decide)) (g := (mkF m 188 #[.val (.int p0_0), .val (.int p0_1), .val (.int p0_2), .val (.int p0_3), .val (.int (3 : Int32)), .val (.ref u_SYMBOL), .val (.int zt), .val (.int zs), .val (.int zc1), .val (.int zc2), .val (.int zc3), .val (.int zd1), .val (.int zd2), .val (.int zd3), .val (.ref x3_420), .val (.ref x3_448), .unset, .unset] [(.int p0_3), (.ref x3_420), (.ref u_SYMBOL), (.ref b476), (.ref b476)])) rfl (by rw [hml]; rfl) (Steps.refl _) (a := b476) (argsL := [(.ref u_SYMBOL), (.ref x3_420), (.int p0_3)]) (rest := [(.ref b476)]) (lenOf pd_5 rfl) rfl (by show 2 * 0 + _ ≤ _; exact Nat.le_of_eq rfl) (hb hby at_188) (fun _ _ => ⟨rfl, e476, (by decide : 13 + 0 ≤ _), (by decide : 27 + 0 ≤ _)⟩)
    dsimp only [Pt.U, Pt.locs, Pt.cells, Pt.slots] at X514 l514 y514 z514 st514 hQ514
    subst l514 y514 z514
    obtain ⟨rfl, N514q, Kc514, G514_0, G514_1, G514_2⟩ := hQ514
    have Zs514 : n0 ≤ T514.heap.size := Nat.le_trans Zs476 Kc514.1
    have sf515 := Safe.keep Kc514 (sfS (Safe.exa hZ.alike A476 (by decide) (by decide)) sf0) hCR.1 sf486
    have hCR := hCR.trans (CHr.keep Kc514 (sfS (Safe.exa hZ.alike A476 (by decide) (by decide)) sf0) hCR.1)
    have hk := Nat.le_trans hk Kc514.1
    have F516 : Sta Z T514.heap "com/example/oyster/oyster/engine/Tokens$Kind" "NUMBER" "Lcom/example/oyster/oyster/engine/Tokens$Kind;" (.ref u_NUMBER) := own_stakeep F487 Kc514 (allS (own_nsE A476) all0)
    have F517 : Exa Z T514.heap u_NUMBER "com/example/oyster/oyster/engine/Tokens$Kind" := F488.keep Kc514
    have F518 : Sta Z T514.heap "com/example/oyster/oyster/engine/Tokens$Kind" "SYMBOL" "Lcom/example/oyster/oyster/engine/Tokens$Kind;" (.ref u_SYMBOL) := own_stakeep F489 Kc514 (allS (own_nsE A476) all0)
    have F519 : Exa Z T514.heap u_SYMBOL "com/example/oyster/oyster/engine/Tokens$Kind" := F490.keep Kc514
    have F520 : Fld Z T514.heap u_NUMBER "java/lang/Enum" "ordinal" "I" (.int (0 : Int32)) := F491.keep Kc514 (ninS ne477 nin0)
    have F521 : Fld Z T514.heap u_SYMBOL "java/lang/Enum" "ordinal" "I" (.int (3 : Int32)) := F492.keep Kc514 (ninS ne478 nin0)
    have F522 : Sta Z T514.heap "com/example/oyster/oyster/engine/Tokens$Kind" "NAME" "Lcom/example/oyster/oyster/engine/Tokens$Kind;" (.ref u_NAME) := own_stakeep F493 Kc514 (allS (own_nsE A476) all0)
    have F523 : Exa Z T514.heap u_NAME "com/example/oyster/oyster/engine/Tokens$Kind" := F494.keep Kc514
    have F524 : Fld Z T514.heap u_NAME "java/lang/Enum" "ordinal" "I" (.int (2 : Int32)) := F495.keep Kc514 (ninS ne479 nin0)
    have F525 : Sta Z T514.heap "com/example/oyster/oyster/engine/Tokens$Kind" "END" "Lcom/example/oyster/oyster/engine/Tokens$Kind;" (.ref u_END) := own_stakeep F496 Kc514 (allS (own_nsE A476) all0)
    have F526 : Exa Z T514.heap u_END "com/example/oyster/oyster/engine/Tokens$Kind" := F497.keep Kc514
    have F527 : Fld Z T514.heap u_END "java/lang/Enum" "ordinal" "I" (.int (4 : Int32)) := F498.keep Kc514 (ninS ne480 nin0)
    have F528 : Sta Z T514.heap "com/example/oyster/oyster/engine/Tokens$Kind" "STRING" "Lcom/example/oyster/oyster/engine/Tokens$Kind;" (.ref u_STRING) := own_stakeep F499 Kc514 (allS (own_nsE A476) all0)
    have F529 : Exa Z T514.heap u_STRING "com/example/oyster/oyster/engine/Tokens$Kind" := F500.keep Kc514
    have F530 : Fld Z T514.heap u_STRING "java/lang/Enum" "ordinal" "I" (.int (1 : Int32)) := F501.keep Kc514 (ninS ne481 nin0)
    have F531 : Sta Z T514.heap "java/lang/String" "COMPACT_STRINGS" "Z" (.int cs) := own_stakeep F502 Kc514 (allS (own_nsE A476) all0)
    have F532 : Exa Z T514.heap x3_420 "java/lang/String" := F503.keep Kc514
    have F533 : Fld Z T514.heap x3_420 "java/lang/String" "value" "[B" (.ref d3_420) := F504.keep Kc514 (ninS ne482 nin0)
    have F534 : Fld Z T514.heap x3_420 "java/lang/String" "coder" "B" (.int (0 : Int32)) := F505.keep Kc514 (ninS ne482 nin0)
    have F535 : Arv Z T514.heap d3_420 kv3_420 .byte (Int32.ofNat (own_mk zt zc1 zc2 zc3).length) (List.map Value.int (List.map (fun c => c.toInt8.toInt32) (own_mk zt zc1 zc2 zc3))) (.int (0 : Int32)) := F506.keep Kc514 (ninS ne483 nin0)
    have F536 : Exa Z T514.heap x3_448 "java/lang/String" := F507.keep Kc514
    have F537 : Fld Z T514.heap x3_448 "java/lang/String" "value" "[B" (.ref d3_448) := F508.keep Kc514 (ninS ne484 nin0)
    have F538 : Fld Z T514.heap x3_448 "java/lang/String" "coder" "B" (.int (0 : Int32)) := F509.keep Kc514 (ninS ne484 nin0)
    have F539 : Arv Z T514.heap d3_448 kv3_448 .byte (Int32.ofNat (own_mk zs zx1 zx2 zx3).length) (List.map Value.int (List.map (fun c => c.toInt8.toInt32) (own_mk zs zx1 zx2 zx3))) (.int (0 : Int32)) := F510.keep Kc514 (ninS ne485 nin0)
    have N514 := Fr.app N448 N514q
    have k541 : ∀ t, Steps p.tables e below (T514.setTop (mkF m 203 #[.val (.int p0_0), .val (.int p0_1), .val (.int p0_2), .val (.int p0_3), .val (.int (3 : Int32)), .val (.ref u_SYMBOL), .val (.int zt), .val (.int zs), .val (.int zc1), .val (.int zc2), .val (.int zc3), .val (.int zd1), .val (.int zd2), .val (.int zd3), .val (.ref x3_420), .val (.ref x3_448), .val (.ref b476), .unset] [(.int zs), (.int zt)])) t → Steps p.tables e below (s₁.setTop (entryFrame m #[(.int p0_0), (.int p0_1), (.int p0_2), (.int p0_3)] maxLocals)) t := by
      intro t k
      refine k447 t ?_
      show Steps p.tables e below (T420.setTop (mkF m 174 #[.val (.int p0_0), .val (.int p0_1), .val (.int p0_2), .val (.int p0_3), .val (.int (3 : Int32)), .val (.ref u_SYMBOL), .val (.int zt), .val (.int zs), .val (.int zc1), .val (.int zc2), .val (.int zc3), .val (.int zd1), .val (.int zd2), .val (.int zd3), .val (.ref x3_420), .unset, .unset, .unset] [(.int zx3), (.int zx2), (.int zx1), (.int zs)])) _
      refine st448.trans ?_
      show Steps p.tables e below (T448.setTop (mkF m 177 #[.val (.int p0_0), .val (.int p0_1), .val (.int p0_2), .val (.int p0_3), .val (.int (3 : Int32)), .val (.ref u_SYMBOL), .val (.int zt), .val (.int zs), .val (.int zc1), .val (.int zc2), .val (.int zc3), .val (.int zd1), .val (.int zd2), .val (.int zd3), .val (.ref x3_420), .unset, .unset, .unset] [(.ref x3_448)])) _
      refine XS.astore X448.here hx rfl (hb hby at_177) rfl rfl (l' := #[.val (.int p0_0), .val (.int p0_1), .val (.int p0_2), .val (.int p0_3), .val (.int (3 : Int32)), .val (.ref u_SYMBOL), .val (.int zt), .val (.int zs), .val (.int zc1), .val (.int zc2), .val (.int zc3), .val (.int zd1), .val (.int zd2), .val (.int zd3), .val (.ref x3_420), .val (.ref x3_448), .unset, .unset]) rfl ?_
      show Steps p.tables e below (T448.setTop (mkF m 179 #[.val (.int p0_0), .val (.int p0_1), .val (.int p0_2), .val (.int p0_3), .val (.int (3 : Int32)), .val (.ref u_SYMBOL), .val (.int zt), .val (.int zs), .val (.int zc1), .val (.int zc2), .val (.int zc3), .val (.int zd1), .val (.int zd2), .val (.int zd3), .val (.ref x3_420), .val (.ref x3_448), .unset, .unset] [])) _
      refine st476 _ ?_
      show Steps p.tables e below (T476.setTop (mkF m 182 #[.val (.int p0_0), .val (.int p0_1), .val (.int p0_2), .val (.int p0_3), .val (.int (3 : Int32)), .val (.ref u_SYMBOL), .val (.int zt), .val (.int zs), .val (.int zc1), .val (.int zc2), .val (.int zc3), .val (.int zd1), .val (.int zd2), .val (.int zd3), .val (.ref x3_420), .val (.ref x3_448), .unset, .unset] [(.ref b476)])) _
      refine XS.dup X476.here hx rfl (hb hby at_182) rfl rfl ?_
      show Steps p.tables e below (T476.setTop (mkF m 183 #[.val (.int p0_0), .val (.int p0_1), .val (.int p0_2), .val (.int p0_3), .val (.int (3 : Int32)), .val (.ref u_SYMBOL), .val (.int zt), .val (.int zs), .val (.int zc1), .val (.int zc2), .val (.int zc3), .val (.int zd1), .val (.int zd2), .val (.int zd3), .val (.ref x3_420), .val (.ref x3_448), .unset, .unset] [(.ref b476), (.ref b476)])) _
      refine XS.aload X476.here hx rfl (hb hby at_183) rfl rfl ?_
      show Steps p.tables e below (T476.setTop (mkF m 185 #[.val (.int p0_0), .val (.int p0_1), .val (.int p0_2), .val (.int p0_3), .val (.int (3 : Int32)), .val (.ref u_SYMBOL), .val (.int zt), .val (.int zs), .val (.int zc1), .val (.int zc2), .val (.int zc3), .val (.int zd1), .val (.int zd2), .val (.int zd3), .val (.ref x3_420), .val (.ref x3_448), .unset, .unset] [(.ref u_SYMBOL), (.ref b476), (.ref b476)])) _
      refine XS.aload X476.here hx rfl (hb hby at_185) rfl rfl ?_
      show Steps p.tables e below (T476.setTop (mkF m 187 #[.val (.int p0_0), .val (.int p0_1), .val (.int p0_2), .val (.int p0_3), .val (.int (3 : Int32)), .val (.ref u_SYMBOL), .val (.int zt), .val (.int zs), .val (.int zc1), .val (.int zc2), .val (.int zc3), .val (.int zd1), .val (.int zd2), .val (.int zd3), .val (.ref x3_420), .val (.ref x3_448), .unset, .unset] [(.ref x3_420), (.ref u_SYMBOL), (.ref b476), (.ref b476)])) _
      refine XS.iloadN X476.here hx rfl (hb hby at_187) rfl ?_
      show Steps p.tables e below (T476.setTop (mkF m 188 #[.val (.int p0_0), .val (.int p0_1), .val (.int p0_2), .val (.int p0_3), .val (.int (3 : Int32)), .val (.ref u_SYMBOL), .val (.int zt), .val (.int zs), .val (.int zc1), .val (.int zc2), .val (.int zc3), .val (.int zd1), .val (.int zd2), .val (.int zd3), .val (.ref x3_420), .val (.ref x3_448), .unset, .unset] [(.int p0_3), (.ref x3_420), (.ref u_SYMBOL), (.ref b476), (.ref b476)])) _
      refine st514.trans ?_
      show Steps p.tables e below (T514.setTop (mkF m 191 #[.val (.int p0_0), .val (.int p0_1), .val (.int p0_2), .val (.int p0_3), .val (.int (3 : Int32)), .val (.ref u_SYMBOL), .val (.int zt), .val (.int zs), .val (.int zc1), .val (.int zc2), .val (.int zc3), .val (.int zd1), .val (.int zd2), .val (.int zd3), .val (.ref x3_420), .val (.ref x3_448), .unset, .unset] [(.ref b476)])) _
      refine XS.astore X514.here hx rfl (hb hby at_191) rfl rfl (l' := #[.val (.int p0_0), .val (.int p0_1), .val (.int p0_2), .val (.int p0_3), .val (.int (3 : Int32)), .val (.ref u_SYMBOL), .val (.int zt), .val (.int zs), .val (.int zc1), .val (.int zc2), .val (.int zc3), .val (.int zd1), .val (.int zd2), .val (.int zd3), .val (.ref x3_420), .val (.ref x3_448), .val (.ref b476), .unset]) rfl ?_
      show Steps p.tables e below (T514.setTop (mkF m 193 #[.val (.int p0_0), .val (.int p0_1), .val (.int p0_2), .val (.int p0_3), .val (.int (3 : Int32)), .val (.ref u_SYMBOL), .val (.int zt), .val (.int zs), .val (.int zc1), .val (.int zc2), .val (.int zc3), .val (.int zd1), .val (.int zd2), .val (.int zd3), .val (.ref x3_420), .val (.ref x3_448), .val (.ref b476), .unset] [])) _
      refine XS.iload X514.here hx rfl (hb hby at_193) rfl ?_
      show Steps p.tables e below (T514.setTop (mkF m 195 #[.val (.int p0_0), .val (.int p0_1), .val (.int p0_2), .val (.int p0_3), .val (.int (3 : Int32)), .val (.ref u_SYMBOL), .val (.int zt), .val (.int zs), .val (.int zc1), .val (.int zc2), .val (.int zc3), .val (.int zd1), .val (.int zd2), .val (.int zd3), .val (.ref x3_420), .val (.ref x3_448), .val (.ref b476), .unset] [(.int (3 : Int32))])) _
      refine XS.iconst X514.here hx rfl (hb hby at_195) ?_
      show Steps p.tables e below (T514.setTop (mkF m 196 #[.val (.int p0_0), .val (.int p0_1), .val (.int p0_2), .val (.int p0_3), .val (.int (3 : Int32)), .val (.ref u_SYMBOL), .val (.int zt), .val (.int zs), .val (.int zc1), .val (.int zc2), .val (.int zc3), .val (.int zd1), .val (.int zd2), .val (.int zd3), .val (.ref x3_420), .val (.ref x3_448), .val (.ref b476), .unset] [(.int (3 : Int32)), (.int (3 : Int32))])) _
      refine XS.icmpNo X514.here hx rfl (hb hby at_196) rfl (teq (by decide : (3 : Int32) = (3 : Int32))).2 ?_
      show Steps p.tables e below (T514.setTop (mkF m 199 #[.val (.int p0_0), .val (.int p0_1), .val (.int p0_2), .val (.int p0_3), .val (.int (3 : Int32)), .val (.ref u_SYMBOL), .val (.int zt), .val (.int zs), .val (.int zc1), .val (.int zc2), .val (.int zc3), .val (.int zd1), .val (.int zd2), .val (.int zd3), .val (.ref x3_420), .val (.ref x3_448), .val (.ref b476), .unset] [])) _
      refine XS.iload X514.here hx rfl (hb hby at_199) rfl ?_
      show Steps p.tables e below (T514.setTop (mkF m 201 #[.val (.int p0_0), .val (.int p0_1), .val (.int p0_2), .val (.int p0_3), .val (.int (3 : Int32)), .val (.ref u_SYMBOL), .val (.int zt), .val (.int zs), .val (.int zc1), .val (.int zc2), .val (.int zc3), .val (.int zd1), .val (.int zd2), .val (.int zd3), .val (.ref x3_420), .val (.ref x3_448), .val (.ref b476), .unset] [(.int zt)])) _
      refine XS.iload X514.here hx rfl (hb hby at_201) rfl ?_
      exact k
    obtain ⟨v557, hv557⟩ : ∃ z, z = (if zt = zs then (if zt < (1 : Int32) then (if zt < (2 : Int32) then (if zt < (3 : Int32) then (1 : Int32) else (if zd3 = (0 : Int32) then (1 : Int32) else (0 : Int32))) else (if zd2 = (0 : Int32) then (if zt < (3 : Int32) then (1 : Int32) else (if zd3 = (0 : Int32) then (1 : Int32) else (0 : Int32))) else (0 : Int32))) else (if zd1 = (0 : Int32) then (if zt < (2 : Int32) then (if zt < (3 : Int32) then (1 : Int32) else (if zd3 = (0 : Int32) then (1 : Int32) else (0 : Int32))) else (if zd2 = (0 : Int32) then (if zt < (3 : Int32) then (1 : Int32) else (if zd3 = (0 : Int32) then (1 : Int32) else (0 : Int32))) else (0 : Int32))) else (0 : Int32))) else (0 : Int32)) := ⟨_, rfl⟩
    have k558 : ∀ t, Steps p.tables e below (T514.setTop (mkF m 244 #[.val (.int p0_0), .val (.int p0_1), .val (.int p0_2), .val (.int p0_3), .val (.int (3 : Int32)), .val (.ref u_SYMBOL), .val (.int zt), .val (.int zs), .val (.int zc1), .val (.int zc2), .val (.int zc3), .val (.int zd1), .val (.int zd2), .val (.int zd3), .val (.ref x3_420), .val (.ref x3_448), .val (.ref b476), .unset] [(.int v557)])) t → Steps p.tables e below (s₁.setTop (entryFrame m #[(.int p0_0), (.int p0_1), (.int p0_2), (.int p0_3)] maxLocals)) t := by
      intro t k
      refine k541 t ?_
      by_cases hc203_542 : zt = zs
      · skip
        show Steps p.tables e below (T514.setTop (mkF m 203 #[.val (.int p0_0), .val (.int p0_1), .val (.int p0_2), .val (.int p0_3), .val (.int (3 : Int32)), .val (.ref u_SYMBOL), .val (.int zt), .val (.int zs), .val (.int zc1), .val (.int zc2), .val (.int zc3), .val (.int zd1), .val (.int zd2), .val (.int zd3), .val (.ref x3_420), .val (.ref x3_448), .val (.ref b476), .unset] [(.int zs), (.int zt)])) _
        refine XS.icmpNo X514.here hx rfl (hb hby at_203) rfl (teq hc203_542).2 ?_
        show Steps p.tables e below (T514.setTop (mkF m 206 #[.val (.int p0_0), .val (.int p0_1), .val (.int p0_2), .val (.int p0_3), .val (.int (3 : Int32)), .val (.ref u_SYMBOL), .val (.int zt), .val (.int zs), .val (.int zc1), .val (.int zc2), .val (.int zc3), .val (.int zd1), .val (.int zd2), .val (.int zd3), .val (.ref x3_420), .val (.ref x3_448), .val (.ref b476), .unset] [])) _
        refine XS.iload X514.here hx rfl (hb hby at_206) rfl ?_
        show Steps p.tables e below (T514.setTop (mkF m 208 #[.val (.int p0_0), .val (.int p0_1), .val (.int p0_2), .val (.int p0_3), .val (.int (3 : Int32)), .val (.ref u_SYMBOL), .val (.int zt), .val (.int zs), .val (.int zc1), .val (.int zc2), .val (.int zc3), .val (.int zd1), .val (.int zd2), .val (.int zd3), .val (.ref x3_420), .val (.ref x3_448), .val (.ref b476), .unset] [(.int zt)])) _
        refine XS.iconst X514.here hx rfl (hb hby at_208) ?_
        by_cases hc209_543 : zt < (1 : Int32)
        · skip
          show Steps p.tables e below (T514.setTop (mkF m 209 #[.val (.int p0_0), .val (.int p0_1), .val (.int p0_2), .val (.int p0_3), .val (.int (3 : Int32)), .val (.ref u_SYMBOL), .val (.int zt), .val (.int zs), .val (.int zc1), .val (.int zc2), .val (.int zc3), .val (.int zd1), .val (.int zd2), .val (.int zd3), .val (.ref x3_420), .val (.ref x3_448), .val (.ref b476), .unset] [(.int (1 : Int32)), (.int zt)])) _
          refine XS.icmpYes X514.here hx rfl (pc0 := 209) (pc' := 217) rfl (hb hby at_209) rfl (tlt hc209_543).1 (by decide) (by decide) ?_
          show Steps p.tables e below (T514.setTop (mkF m 217 #[.val (.int p0_0), .val (.int p0_1), .val (.int p0_2), .val (.int p0_3), .val (.int (3 : Int32)), .val (.ref u_SYMBOL), .val (.int zt), .val (.int zs), .val (.int zc1), .val (.int zc2), .val (.int zc3), .val (.int zd1), .val (.int zd2), .val (.int zd3), .val (.ref x3_420), .val (.ref x3_448), .val (.ref b476), .unset] [])) _
          refine XS.iload X514.here hx rfl (hb hby at_217) rfl ?_
          show Steps p.tables e below (T514.setTop (mkF m 219 #[.val (.int p0_0), .val (.int p0_1), .val (.int p0_2), .val (.int p0_3), .val (.int (3 : Int32)), .val (.ref u_SYMBOL), .val (.int zt), .val (.int zs), .val (.int zc1), .val (.int zc2), .val (.int zc3), .val (.int zd1), .val (.int zd2), .val (.int zd3), .val (.ref x3_420), .val (.ref x3_448), .val (.ref b476), .unset] [(.int zt)])) _
          refine XS.iconst X514.here hx rfl (hb hby at_219) ?_
          by_cases hc220_544 : zt < (2 : Int32)
          · skip
            show Steps p.tables e below (T514.setTop (mkF m 220 #[.val (.int p0_0), .val (.int p0_1), .val (.int p0_2), .val (.int p0_3), .val (.int (3 : Int32)), .val (.ref u_SYMBOL), .val (.int zt), .val (.int zs), .val (.int zc1), .val (.int zc2), .val (.int zc3), .val (.int zd1), .val (.int zd2), .val (.int zd3), .val (.ref x3_420), .val (.ref x3_448), .val (.ref b476), .unset] [(.int (2 : Int32)), (.int zt)])) _
            refine XS.icmpYes X514.here hx rfl (pc0 := 220) (pc' := 228) rfl (hb hby at_220) rfl (tlt hc220_544).1 (by decide) (by decide) ?_
            show Steps p.tables e below (T514.setTop (mkF m 228 #[.val (.int p0_0), .val (.int p0_1), .val (.int p0_2), .val (.int p0_3), .val (.int (3 : Int32)), .val (.ref u_SYMBOL), .val (.int zt), .val (.int zs), .val (.int zc1), .val (.int zc2), .val (.int zc3), .val (.int zd1), .val (.int zd2), .val (.int zd3), .val (.ref x3_420), .val (.ref x3_448), .val (.ref b476), .unset] [])) _
            refine XS.iload X514.here hx rfl (hb hby at_228) rfl ?_
            show Steps p.tables e below (T514.setTop (mkF m 230 #[.val (.int p0_0), .val (.int p0_1), .val (.int p0_2), .val (.int p0_3), .val (.int (3 : Int32)), .val (.ref u_SYMBOL), .val (.int zt), .val (.int zs), .val (.int zc1), .val (.int zc2), .val (.int zc3), .val (.int zd1), .val (.int zd2), .val (.int zd3), .val (.ref x3_420), .val (.ref x3_448), .val (.ref b476), .unset] [(.int zt)])) _
            refine XS.iconst X514.here hx rfl (hb hby at_230) ?_
            by_cases hc231_545 : zt < (3 : Int32)
            · skip
              show Steps p.tables e below (T514.setTop (mkF m 231 #[.val (.int p0_0), .val (.int p0_1), .val (.int p0_2), .val (.int p0_3), .val (.int (3 : Int32)), .val (.ref u_SYMBOL), .val (.int zt), .val (.int zs), .val (.int zc1), .val (.int zc2), .val (.int zc3), .val (.int zd1), .val (.int zd2), .val (.int zd3), .val (.ref x3_420), .val (.ref x3_448), .val (.ref b476), .unset] [(.int (3 : Int32)), (.int zt)])) _
              refine XS.icmpYes X514.here hx rfl (pc0 := 231) (pc' := 239) rfl (hb hby at_231) rfl (tlt hc231_545).1 (by decide) (by decide) ?_
              show Steps p.tables e below (T514.setTop (mkF m 239 #[.val (.int p0_0), .val (.int p0_1), .val (.int p0_2), .val (.int p0_3), .val (.int (3 : Int32)), .val (.ref u_SYMBOL), .val (.int zt), .val (.int zs), .val (.int zc1), .val (.int zc2), .val (.int zc3), .val (.int zd1), .val (.int zd2), .val (.int zd3), .val (.ref x3_420), .val (.ref x3_448), .val (.ref b476), .unset] [])) _
              refine XS.iconst X514.here hx rfl (hb hby at_239) ?_
              show Steps p.tables e below (T514.setTop (mkF m 240 #[.val (.int p0_0), .val (.int p0_1), .val (.int p0_2), .val (.int p0_3), .val (.int (3 : Int32)), .val (.ref u_SYMBOL), .val (.int zt), .val (.int zs), .val (.int zc1), .val (.int zc2), .val (.int zc3), .val (.int zd1), .val (.int zd2), .val (.int zd3), .val (.ref x3_420), .val (.ref x3_448), .val (.ref b476), .unset] [(.int (1 : Int32))])) _
              refine XS.goto X514.here hx rfl (pc0 := 240) (pc' := 244) rfl (hb hby at_240) (by decide) (by decide) ?_
              rw [show v557 = (1 : Int32) from hv557.trans (by rw [if_pos hc203_542, if_pos hc209_543, if_pos hc220_544, if_pos hc231_545])] at k
              exact k
            · skip
              show Steps p.tables e below (T514.setTop (mkF m 231 #[.val (.int p0_0), .val (.int p0_1), .val (.int p0_2), .val (.int p0_3), .val (.int (3 : Int32)), .val (.ref u_SYMBOL), .val (.int zt), .val (.int zs), .val (.int zc1), .val (.int zc2), .val (.int zc3), .val (.int zd1), .val (.int zd2), .val (.int zd3), .val (.ref x3_420), .val (.ref x3_448), .val (.ref b476), .unset] [(.int (3 : Int32)), (.int zt)])) _
              refine XS.icmpNo X514.here hx rfl (hb hby at_231) rfl (flt hc231_545).1 ?_
              show Steps p.tables e below (T514.setTop (mkF m 234 #[.val (.int p0_0), .val (.int p0_1), .val (.int p0_2), .val (.int p0_3), .val (.int (3 : Int32)), .val (.ref u_SYMBOL), .val (.int zt), .val (.int zs), .val (.int zc1), .val (.int zc2), .val (.int zc3), .val (.int zd1), .val (.int zd2), .val (.int zd3), .val (.ref x3_420), .val (.ref x3_448), .val (.ref b476), .unset] [])) _
              refine XS.iload X514.here hx rfl (hb hby at_234) rfl ?_
              by_cases hc236_546 : zd3 = (0 : Int32)
              · skip
                show Steps p.tables e below (T514.setTop (mkF m 236 #[.val (.int p0_0), .val (.int p0_1), .val (.int p0_2), .val (.int p0_3), .val (.int (3 : Int32)), .val (.ref u_SYMBOL), .val (.int zt), .val (.int zs), .val (.int zc1), .val (.int zc2), .val (.int zc3), .val (.int zd1), .val (.int zd2), .val (.int zd3), .val (.ref x3_420), .val (.ref x3_448), .val (.ref b476), .unset] [(.int zd3)])) _
                refine XS.ifNo X514.here hx rfl (hb hby at_236) rfl ((if0 _ _).trans (teq hc236_546).2) ?_
                show Steps p.tables e below (T514.setTop (mkF m 239 #[.val (.int p0_0), .val (.int p0_1), .val (.int p0_2), .val (.int p0_3), .val (.int (3 : Int32)), .val (.ref u_SYMBOL), .val (.int zt), .val (.int zs), .val (.int zc1), .val (.int zc2), .val (.int zc3), .val (.int zd1), .val (.int zd2), .val (.int zd3), .val (.ref x3_420), .val (.ref x3_448), .val (.ref b476), .unset] [])) _
                refine XS.iconst X514.here hx rfl (hb hby at_239) ?_
                show Steps p.tables e below (T514.setTop (mkF m 240 #[.val (.int p0_0), .val (.int p0_1), .val (.int p0_2), .val (.int p0_3), .val (.int (3 : Int32)), .val (.ref u_SYMBOL), .val (.int zt), .val (.int zs), .val (.int zc1), .val (.int zc2), .val (.int zc3), .val (.int zd1), .val (.int zd2), .val (.int zd3), .val (.ref x3_420), .val (.ref x3_448), .val (.ref b476), .unset] [(.int (1 : Int32))])) _
                refine XS.goto X514.here hx rfl (pc0 := 240) (pc' := 244) rfl (hb hby at_240) (by decide) (by decide) ?_
                rw [show v557 = (1 : Int32) from hv557.trans (by rw [if_pos hc203_542, if_pos hc209_543, if_pos hc220_544, if_neg hc231_545, if_pos hc236_546])] at k
                exact k
              · skip
                show Steps p.tables e below (T514.setTop (mkF m 236 #[.val (.int p0_0), .val (.int p0_1), .val (.int p0_2), .val (.int p0_3), .val (.int (3 : Int32)), .val (.ref u_SYMBOL), .val (.int zt), .val (.int zs), .val (.int zc1), .val (.int zc2), .val (.int zc3), .val (.int zd1), .val (.int zd2), .val (.int zd3), .val (.ref x3_420), .val (.ref x3_448), .val (.ref b476), .unset] [(.int zd3)])) _
                refine XS.ifYes X514.here hx rfl (pc0 := 236) (pc' := 243) rfl (hb hby at_236) rfl ((if0 _ _).trans (feq hc236_546).2) (by decide) (by decide) ?_
                show Steps p.tables e below (T514.setTop (mkF m 243 #[.val (.int p0_0), .val (.int p0_1), .val (.int p0_2), .val (.int p0_3), .val (.int (3 : Int32)), .val (.ref u_SYMBOL), .val (.int zt), .val (.int zs), .val (.int zc1), .val (.int zc2), .val (.int zc3), .val (.int zd1), .val (.int zd2), .val (.int zd3), .val (.ref x3_420), .val (.ref x3_448), .val (.ref b476), .unset] [])) _
                refine XS.iconst X514.here hx rfl (hb hby at_243) ?_
                rw [show v557 = (0 : Int32) from hv557.trans (by rw [if_pos hc203_542, if_pos hc209_543, if_pos hc220_544, if_neg hc231_545, if_neg hc236_546])] at k
                exact k
          · skip
            show Steps p.tables e below (T514.setTop (mkF m 220 #[.val (.int p0_0), .val (.int p0_1), .val (.int p0_2), .val (.int p0_3), .val (.int (3 : Int32)), .val (.ref u_SYMBOL), .val (.int zt), .val (.int zs), .val (.int zc1), .val (.int zc2), .val (.int zc3), .val (.int zd1), .val (.int zd2), .val (.int zd3), .val (.ref x3_420), .val (.ref x3_448), .val (.ref b476), .unset] [(.int (2 : Int32)), (.int zt)])) _
            refine XS.icmpNo X514.here hx rfl (hb hby at_220) rfl (flt hc220_544).1 ?_
            show Steps p.tables e below (T514.setTop (mkF m 223 #[.val (.int p0_0), .val (.int p0_1), .val (.int p0_2), .val (.int p0_3), .val (.int (3 : Int32)), .val (.ref u_SYMBOL), .val (.int zt), .val (.int zs), .val (.int zc1), .val (.int zc2), .val (.int zc3), .val (.int zd1), .val (.int zd2), .val (.int zd3), .val (.ref x3_420), .val (.ref x3_448), .val (.ref b476), .unset] [])) _
            refine XS.iload X514.here hx rfl (hb hby at_223) rfl ?_
            by_cases hc225_547 : zd2 = (0 : Int32)
            · skip
              show Steps p.tables e below (T514.setTop (mkF m 225 #[.val (.int p0_0), .val (.int p0_1), .val (.int p0_2), .val (.int p0_3), .val (.int (3 : Int32)), .val (.ref u_SYMBOL), .val (.int zt), .val (.int zs), .val (.int zc1), .val (.int zc2), .val (.int zc3), .val (.int zd1), .val (.int zd2), .val (.int zd3), .val (.ref x3_420), .val (.ref x3_448), .val (.ref b476), .unset] [(.int zd2)])) _
              refine XS.ifNo X514.here hx rfl (hb hby at_225) rfl ((if0 _ _).trans (teq hc225_547).2) ?_
              show Steps p.tables e below (T514.setTop (mkF m 228 #[.val (.int p0_0), .val (.int p0_1), .val (.int p0_2), .val (.int p0_3), .val (.int (3 : Int32)), .val (.ref u_SYMBOL), .val (.int zt), .val (.int zs), .val (.int zc1), .val (.int zc2), .val (.int zc3), .val (.int zd1), .val (.int zd2), .val (.int zd3), .val (.ref x3_420), .val (.ref x3_448), .val (.ref b476), .unset] [])) _
              refine XS.iload X514.here hx rfl (hb hby at_228) rfl ?_
              show Steps p.tables e below (T514.setTop (mkF m 230 #[.val (.int p0_0), .val (.int p0_1), .val (.int p0_2), .val (.int p0_3), .val (.int (3 : Int32)), .val (.ref u_SYMBOL), .val (.int zt), .val (.int zs), .val (.int zc1), .val (.int zc2), .val (.int zc3), .val (.int zd1), .val (.int zd2), .val (.int zd3), .val (.ref x3_420), .val (.ref x3_448), .val (.ref b476), .unset] [(.int zt)])) _
              refine XS.iconst X514.here hx rfl (hb hby at_230) ?_
              by_cases hc231_548 : zt < (3 : Int32)
              · skip
                show Steps p.tables e below (T514.setTop (mkF m 231 #[.val (.int p0_0), .val (.int p0_1), .val (.int p0_2), .val (.int p0_3), .val (.int (3 : Int32)), .val (.ref u_SYMBOL), .val (.int zt), .val (.int zs), .val (.int zc1), .val (.int zc2), .val (.int zc3), .val (.int zd1), .val (.int zd2), .val (.int zd3), .val (.ref x3_420), .val (.ref x3_448), .val (.ref b476), .unset] [(.int (3 : Int32)), (.int zt)])) _
                refine XS.icmpYes X514.here hx rfl (pc0 := 231) (pc' := 239) rfl (hb hby at_231) rfl (tlt hc231_548).1 (by decide) (by decide) ?_
                show Steps p.tables e below (T514.setTop (mkF m 239 #[.val (.int p0_0), .val (.int p0_1), .val (.int p0_2), .val (.int p0_3), .val (.int (3 : Int32)), .val (.ref u_SYMBOL), .val (.int zt), .val (.int zs), .val (.int zc1), .val (.int zc2), .val (.int zc3), .val (.int zd1), .val (.int zd2), .val (.int zd3), .val (.ref x3_420), .val (.ref x3_448), .val (.ref b476), .unset] [])) _
                refine XS.iconst X514.here hx rfl (hb hby at_239) ?_
                show Steps p.tables e below (T514.setTop (mkF m 240 #[.val (.int p0_0), .val (.int p0_1), .val (.int p0_2), .val (.int p0_3), .val (.int (3 : Int32)), .val (.ref u_SYMBOL), .val (.int zt), .val (.int zs), .val (.int zc1), .val (.int zc2), .val (.int zc3), .val (.int zd1), .val (.int zd2), .val (.int zd3), .val (.ref x3_420), .val (.ref x3_448), .val (.ref b476), .unset] [(.int (1 : Int32))])) _
                refine XS.goto X514.here hx rfl (pc0 := 240) (pc' := 244) rfl (hb hby at_240) (by decide) (by decide) ?_
                rw [show v557 = (1 : Int32) from hv557.trans (by rw [if_pos hc203_542, if_pos hc209_543, if_neg hc220_544, if_pos hc225_547, if_pos hc231_548])] at k
                exact k
              · skip
                show Steps p.tables e below (T514.setTop (mkF m 231 #[.val (.int p0_0), .val (.int p0_1), .val (.int p0_2), .val (.int p0_3), .val (.int (3 : Int32)), .val (.ref u_SYMBOL), .val (.int zt), .val (.int zs), .val (.int zc1), .val (.int zc2), .val (.int zc3), .val (.int zd1), .val (.int zd2), .val (.int zd3), .val (.ref x3_420), .val (.ref x3_448), .val (.ref b476), .unset] [(.int (3 : Int32)), (.int zt)])) _
                refine XS.icmpNo X514.here hx rfl (hb hby at_231) rfl (flt hc231_548).1 ?_
                show Steps p.tables e below (T514.setTop (mkF m 234 #[.val (.int p0_0), .val (.int p0_1), .val (.int p0_2), .val (.int p0_3), .val (.int (3 : Int32)), .val (.ref u_SYMBOL), .val (.int zt), .val (.int zs), .val (.int zc1), .val (.int zc2), .val (.int zc3), .val (.int zd1), .val (.int zd2), .val (.int zd3), .val (.ref x3_420), .val (.ref x3_448), .val (.ref b476), .unset] [])) _
                refine XS.iload X514.here hx rfl (hb hby at_234) rfl ?_
                by_cases hc236_549 : zd3 = (0 : Int32)
                · skip
                  show Steps p.tables e below (T514.setTop (mkF m 236 #[.val (.int p0_0), .val (.int p0_1), .val (.int p0_2), .val (.int p0_3), .val (.int (3 : Int32)), .val (.ref u_SYMBOL), .val (.int zt), .val (.int zs), .val (.int zc1), .val (.int zc2), .val (.int zc3), .val (.int zd1), .val (.int zd2), .val (.int zd3), .val (.ref x3_420), .val (.ref x3_448), .val (.ref b476), .unset] [(.int zd3)])) _
                  refine XS.ifNo X514.here hx rfl (hb hby at_236) rfl ((if0 _ _).trans (teq hc236_549).2) ?_
                  show Steps p.tables e below (T514.setTop (mkF m 239 #[.val (.int p0_0), .val (.int p0_1), .val (.int p0_2), .val (.int p0_3), .val (.int (3 : Int32)), .val (.ref u_SYMBOL), .val (.int zt), .val (.int zs), .val (.int zc1), .val (.int zc2), .val (.int zc3), .val (.int zd1), .val (.int zd2), .val (.int zd3), .val (.ref x3_420), .val (.ref x3_448), .val (.ref b476), .unset] [])) _
                  refine XS.iconst X514.here hx rfl (hb hby at_239) ?_
                  show Steps p.tables e below (T514.setTop (mkF m 240 #[.val (.int p0_0), .val (.int p0_1), .val (.int p0_2), .val (.int p0_3), .val (.int (3 : Int32)), .val (.ref u_SYMBOL), .val (.int zt), .val (.int zs), .val (.int zc1), .val (.int zc2), .val (.int zc3), .val (.int zd1), .val (.int zd2), .val (.int zd3), .val (.ref x3_420), .val (.ref x3_448), .val (.ref b476), .unset] [(.int (1 : Int32))])) _
                  refine XS.goto X514.here hx rfl (pc0 := 240) (pc' := 244) rfl (hb hby at_240) (by decide) (by decide) ?_
                  rw [show v557 = (1 : Int32) from hv557.trans (by rw [if_pos hc203_542, if_pos hc209_543, if_neg hc220_544, if_pos hc225_547, if_neg hc231_548, if_pos hc236_549])] at k
                  exact k
                · skip
                  show Steps p.tables e below (T514.setTop (mkF m 236 #[.val (.int p0_0), .val (.int p0_1), .val (.int p0_2), .val (.int p0_3), .val (.int (3 : Int32)), .val (.ref u_SYMBOL), .val (.int zt), .val (.int zs), .val (.int zc1), .val (.int zc2), .val (.int zc3), .val (.int zd1), .val (.int zd2), .val (.int zd3), .val (.ref x3_420), .val (.ref x3_448), .val (.ref b476), .unset] [(.int zd3)])) _
                  refine XS.ifYes X514.here hx rfl (pc0 := 236) (pc' := 243) rfl (hb hby at_236) rfl ((if0 _ _).trans (feq hc236_549).2) (by decide) (by decide) ?_
                  show Steps p.tables e below (T514.setTop (mkF m 243 #[.val (.int p0_0), .val (.int p0_1), .val (.int p0_2), .val (.int p0_3), .val (.int (3 : Int32)), .val (.ref u_SYMBOL), .val (.int zt), .val (.int zs), .val (.int zc1), .val (.int zc2), .val (.int zc3), .val (.int zd1), .val (.int zd2), .val (.int zd3), .val (.ref x3_420), .val (.ref x3_448), .val (.ref b476), .unset] [])) _
                  refine XS.iconst X514.here hx rfl (hb hby at_243) ?_
                  rw [show v557 = (0 : Int32) from hv557.trans (by rw [if_pos hc203_542, if_pos hc209_543, if_neg hc220_544, if_pos hc225_547, if_neg hc231_548, if_neg hc236_549])] at k
                  exact k
            · skip
              show Steps p.tables e below (T514.setTop (mkF m 225 #[.val (.int p0_0), .val (.int p0_1), .val (.int p0_2), .val (.int p0_3), .val (.int (3 : Int32)), .val (.ref u_SYMBOL), .val (.int zt), .val (.int zs), .val (.int zc1), .val (.int zc2), .val (.int zc3), .val (.int zd1), .val (.int zd2), .val (.int zd3), .val (.ref x3_420), .val (.ref x3_448), .val (.ref b476), .unset] [(.int zd2)])) _
              refine XS.ifYes X514.here hx rfl (pc0 := 225) (pc' := 243) rfl (hb hby at_225) rfl ((if0 _ _).trans (feq hc225_547).2) (by decide) (by decide) ?_
              show Steps p.tables e below (T514.setTop (mkF m 243 #[.val (.int p0_0), .val (.int p0_1), .val (.int p0_2), .val (.int p0_3), .val (.int (3 : Int32)), .val (.ref u_SYMBOL), .val (.int zt), .val (.int zs), .val (.int zc1), .val (.int zc2), .val (.int zc3), .val (.int zd1), .val (.int zd2), .val (.int zd3), .val (.ref x3_420), .val (.ref x3_448), .val (.ref b476), .unset] [])) _
              refine XS.iconst X514.here hx rfl (hb hby at_243) ?_
              rw [show v557 = (0 : Int32) from hv557.trans (by rw [if_pos hc203_542, if_pos hc209_543, if_neg hc220_544, if_neg hc225_547])] at k
              exact k
        · skip
          show Steps p.tables e below (T514.setTop (mkF m 209 #[.val (.int p0_0), .val (.int p0_1), .val (.int p0_2), .val (.int p0_3), .val (.int (3 : Int32)), .val (.ref u_SYMBOL), .val (.int zt), .val (.int zs), .val (.int zc1), .val (.int zc2), .val (.int zc3), .val (.int zd1), .val (.int zd2), .val (.int zd3), .val (.ref x3_420), .val (.ref x3_448), .val (.ref b476), .unset] [(.int (1 : Int32)), (.int zt)])) _
          refine XS.icmpNo X514.here hx rfl (hb hby at_209) rfl (flt hc209_543).1 ?_
          show Steps p.tables e below (T514.setTop (mkF m 212 #[.val (.int p0_0), .val (.int p0_1), .val (.int p0_2), .val (.int p0_3), .val (.int (3 : Int32)), .val (.ref u_SYMBOL), .val (.int zt), .val (.int zs), .val (.int zc1), .val (.int zc2), .val (.int zc3), .val (.int zd1), .val (.int zd2), .val (.int zd3), .val (.ref x3_420), .val (.ref x3_448), .val (.ref b476), .unset] [])) _
          refine XS.iload X514.here hx rfl (hb hby at_212) rfl ?_
          by_cases hc214_550 : zd1 = (0 : Int32)
          · skip
            show Steps p.tables e below (T514.setTop (mkF m 214 #[.val (.int p0_0), .val (.int p0_1), .val (.int p0_2), .val (.int p0_3), .val (.int (3 : Int32)), .val (.ref u_SYMBOL), .val (.int zt), .val (.int zs), .val (.int zc1), .val (.int zc2), .val (.int zc3), .val (.int zd1), .val (.int zd2), .val (.int zd3), .val (.ref x3_420), .val (.ref x3_448), .val (.ref b476), .unset] [(.int zd1)])) _
            refine XS.ifNo X514.here hx rfl (hb hby at_214) rfl ((if0 _ _).trans (teq hc214_550).2) ?_
            show Steps p.tables e below (T514.setTop (mkF m 217 #[.val (.int p0_0), .val (.int p0_1), .val (.int p0_2), .val (.int p0_3), .val (.int (3 : Int32)), .val (.ref u_SYMBOL), .val (.int zt), .val (.int zs), .val (.int zc1), .val (.int zc2), .val (.int zc3), .val (.int zd1), .val (.int zd2), .val (.int zd3), .val (.ref x3_420), .val (.ref x3_448), .val (.ref b476), .unset] [])) _
            refine XS.iload X514.here hx rfl (hb hby at_217) rfl ?_
            show Steps p.tables e below (T514.setTop (mkF m 219 #[.val (.int p0_0), .val (.int p0_1), .val (.int p0_2), .val (.int p0_3), .val (.int (3 : Int32)), .val (.ref u_SYMBOL), .val (.int zt), .val (.int zs), .val (.int zc1), .val (.int zc2), .val (.int zc3), .val (.int zd1), .val (.int zd2), .val (.int zd3), .val (.ref x3_420), .val (.ref x3_448), .val (.ref b476), .unset] [(.int zt)])) _
            refine XS.iconst X514.here hx rfl (hb hby at_219) ?_
            by_cases hc220_551 : zt < (2 : Int32)
            · skip
              show Steps p.tables e below (T514.setTop (mkF m 220 #[.val (.int p0_0), .val (.int p0_1), .val (.int p0_2), .val (.int p0_3), .val (.int (3 : Int32)), .val (.ref u_SYMBOL), .val (.int zt), .val (.int zs), .val (.int zc1), .val (.int zc2), .val (.int zc3), .val (.int zd1), .val (.int zd2), .val (.int zd3), .val (.ref x3_420), .val (.ref x3_448), .val (.ref b476), .unset] [(.int (2 : Int32)), (.int zt)])) _
              refine XS.icmpYes X514.here hx rfl (pc0 := 220) (pc' := 228) rfl (hb hby at_220) rfl (tlt hc220_551).1 (by decide) (by decide) ?_
              show Steps p.tables e below (T514.setTop (mkF m 228 #[.val (.int p0_0), .val (.int p0_1), .val (.int p0_2), .val (.int p0_3), .val (.int (3 : Int32)), .val (.ref u_SYMBOL), .val (.int zt), .val (.int zs), .val (.int zc1), .val (.int zc2), .val (.int zc3), .val (.int zd1), .val (.int zd2), .val (.int zd3), .val (.ref x3_420), .val (.ref x3_448), .val (.ref b476), .unset] [])) _
              refine XS.iload X514.here hx rfl (hb hby at_228) rfl ?_
              show Steps p.tables e below (T514.setTop (mkF m 230 #[.val (.int p0_0), .val (.int p0_1), .val (.int p0_2), .val (.int p0_3), .val (.int (3 : Int32)), .val (.ref u_SYMBOL), .val (.int zt), .val (.int zs), .val (.int zc1), .val (.int zc2), .val (.int zc3), .val (.int zd1), .val (.int zd2), .val (.int zd3), .val (.ref x3_420), .val (.ref x3_448), .val (.ref b476), .unset] [(.int zt)])) _
              refine XS.iconst X514.here hx rfl (hb hby at_230) ?_
              by_cases hc231_552 : zt < (3 : Int32)
              · skip
                show Steps p.tables e below (T514.setTop (mkF m 231 #[.val (.int p0_0), .val (.int p0_1), .val (.int p0_2), .val (.int p0_3), .val (.int (3 : Int32)), .val (.ref u_SYMBOL), .val (.int zt), .val (.int zs), .val (.int zc1), .val (.int zc2), .val (.int zc3), .val (.int zd1), .val (.int zd2), .val (.int zd3), .val (.ref x3_420), .val (.ref x3_448), .val (.ref b476), .unset] [(.int (3 : Int32)), (.int zt)])) _
                refine XS.icmpYes X514.here hx rfl (pc0 := 231) (pc' := 239) rfl (hb hby at_231) rfl (tlt hc231_552).1 (by decide) (by decide) ?_
                show Steps p.tables e below (T514.setTop (mkF m 239 #[.val (.int p0_0), .val (.int p0_1), .val (.int p0_2), .val (.int p0_3), .val (.int (3 : Int32)), .val (.ref u_SYMBOL), .val (.int zt), .val (.int zs), .val (.int zc1), .val (.int zc2), .val (.int zc3), .val (.int zd1), .val (.int zd2), .val (.int zd3), .val (.ref x3_420), .val (.ref x3_448), .val (.ref b476), .unset] [])) _
                refine XS.iconst X514.here hx rfl (hb hby at_239) ?_
                show Steps p.tables e below (T514.setTop (mkF m 240 #[.val (.int p0_0), .val (.int p0_1), .val (.int p0_2), .val (.int p0_3), .val (.int (3 : Int32)), .val (.ref u_SYMBOL), .val (.int zt), .val (.int zs), .val (.int zc1), .val (.int zc2), .val (.int zc3), .val (.int zd1), .val (.int zd2), .val (.int zd3), .val (.ref x3_420), .val (.ref x3_448), .val (.ref b476), .unset] [(.int (1 : Int32))])) _
                refine XS.goto X514.here hx rfl (pc0 := 240) (pc' := 244) rfl (hb hby at_240) (by decide) (by decide) ?_
                rw [show v557 = (1 : Int32) from hv557.trans (by rw [if_pos hc203_542, if_neg hc209_543, if_pos hc214_550, if_pos hc220_551, if_pos hc231_552])] at k
                exact k
              · skip
                show Steps p.tables e below (T514.setTop (mkF m 231 #[.val (.int p0_0), .val (.int p0_1), .val (.int p0_2), .val (.int p0_3), .val (.int (3 : Int32)), .val (.ref u_SYMBOL), .val (.int zt), .val (.int zs), .val (.int zc1), .val (.int zc2), .val (.int zc3), .val (.int zd1), .val (.int zd2), .val (.int zd3), .val (.ref x3_420), .val (.ref x3_448), .val (.ref b476), .unset] [(.int (3 : Int32)), (.int zt)])) _
                refine XS.icmpNo X514.here hx rfl (hb hby at_231) rfl (flt hc231_552).1 ?_
                show Steps p.tables e below (T514.setTop (mkF m 234 #[.val (.int p0_0), .val (.int p0_1), .val (.int p0_2), .val (.int p0_3), .val (.int (3 : Int32)), .val (.ref u_SYMBOL), .val (.int zt), .val (.int zs), .val (.int zc1), .val (.int zc2), .val (.int zc3), .val (.int zd1), .val (.int zd2), .val (.int zd3), .val (.ref x3_420), .val (.ref x3_448), .val (.ref b476), .unset] [])) _
                refine XS.iload X514.here hx rfl (hb hby at_234) rfl ?_
                by_cases hc236_553 : zd3 = (0 : Int32)
                · skip
                  show Steps p.tables e below (T514.setTop (mkF m 236 #[.val (.int p0_0), .val (.int p0_1), .val (.int p0_2), .val (.int p0_3), .val (.int (3 : Int32)), .val (.ref u_SYMBOL), .val (.int zt), .val (.int zs), .val (.int zc1), .val (.int zc2), .val (.int zc3), .val (.int zd1), .val (.int zd2), .val (.int zd3), .val (.ref x3_420), .val (.ref x3_448), .val (.ref b476), .unset] [(.int zd3)])) _
                  refine XS.ifNo X514.here hx rfl (hb hby at_236) rfl ((if0 _ _).trans (teq hc236_553).2) ?_
                  show Steps p.tables e below (T514.setTop (mkF m 239 #[.val (.int p0_0), .val (.int p0_1), .val (.int p0_2), .val (.int p0_3), .val (.int (3 : Int32)), .val (.ref u_SYMBOL), .val (.int zt), .val (.int zs), .val (.int zc1), .val (.int zc2), .val (.int zc3), .val (.int zd1), .val (.int zd2), .val (.int zd3), .val (.ref x3_420), .val (.ref x3_448), .val (.ref b476), .unset] [])) _
                  refine XS.iconst X514.here hx rfl (hb hby at_239) ?_
                  show Steps p.tables e below (T514.setTop (mkF m 240 #[.val (.int p0_0), .val (.int p0_1), .val (.int p0_2), .val (.int p0_3), .val (.int (3 : Int32)), .val (.ref u_SYMBOL), .val (.int zt), .val (.int zs), .val (.int zc1), .val (.int zc2), .val (.int zc3), .val (.int zd1), .val (.int zd2), .val (.int zd3), .val (.ref x3_420), .val (.ref x3_448), .val (.ref b476), .unset] [(.int (1 : Int32))])) _
                  refine XS.goto X514.here hx rfl (pc0 := 240) (pc' := 244) rfl (hb hby at_240) (by decide) (by decide) ?_
                  rw [show v557 = (1 : Int32) from hv557.trans (by rw [if_pos hc203_542, if_neg hc209_543, if_pos hc214_550, if_pos hc220_551, if_neg hc231_552, if_pos hc236_553])] at k
                  exact k
                · skip
                  show Steps p.tables e below (T514.setTop (mkF m 236 #[.val (.int p0_0), .val (.int p0_1), .val (.int p0_2), .val (.int p0_3), .val (.int (3 : Int32)), .val (.ref u_SYMBOL), .val (.int zt), .val (.int zs), .val (.int zc1), .val (.int zc2), .val (.int zc3), .val (.int zd1), .val (.int zd2), .val (.int zd3), .val (.ref x3_420), .val (.ref x3_448), .val (.ref b476), .unset] [(.int zd3)])) _
                  refine XS.ifYes X514.here hx rfl (pc0 := 236) (pc' := 243) rfl (hb hby at_236) rfl ((if0 _ _).trans (feq hc236_553).2) (by decide) (by decide) ?_
                  show Steps p.tables e below (T514.setTop (mkF m 243 #[.val (.int p0_0), .val (.int p0_1), .val (.int p0_2), .val (.int p0_3), .val (.int (3 : Int32)), .val (.ref u_SYMBOL), .val (.int zt), .val (.int zs), .val (.int zc1), .val (.int zc2), .val (.int zc3), .val (.int zd1), .val (.int zd2), .val (.int zd3), .val (.ref x3_420), .val (.ref x3_448), .val (.ref b476), .unset] [])) _
                  refine XS.iconst X514.here hx rfl (hb hby at_243) ?_
                  rw [show v557 = (0 : Int32) from hv557.trans (by rw [if_pos hc203_542, if_neg hc209_543, if_pos hc214_550, if_pos hc220_551, if_neg hc231_552, if_neg hc236_553])] at k
                  exact k
            · skip
              show Steps p.tables e below (T514.setTop (mkF m 220 #[.val (.int p0_0), .val (.int p0_1), .val (.int p0_2), .val (.int p0_3), .val (.int (3 : Int32)), .val (.ref u_SYMBOL), .val (.int zt), .val (.int zs), .val (.int zc1), .val (.int zc2), .val (.int zc3), .val (.int zd1), .val (.int zd2), .val (.int zd3), .val (.ref x3_420), .val (.ref x3_448), .val (.ref b476), .unset] [(.int (2 : Int32)), (.int zt)])) _
              refine XS.icmpNo X514.here hx rfl (hb hby at_220) rfl (flt hc220_551).1 ?_
              show Steps p.tables e below (T514.setTop (mkF m 223 #[.val (.int p0_0), .val (.int p0_1), .val (.int p0_2), .val (.int p0_3), .val (.int (3 : Int32)), .val (.ref u_SYMBOL), .val (.int zt), .val (.int zs), .val (.int zc1), .val (.int zc2), .val (.int zc3), .val (.int zd1), .val (.int zd2), .val (.int zd3), .val (.ref x3_420), .val (.ref x3_448), .val (.ref b476), .unset] [])) _
              refine XS.iload X514.here hx rfl (hb hby at_223) rfl ?_
              by_cases hc225_554 : zd2 = (0 : Int32)
              · skip
                show Steps p.tables e below (T514.setTop (mkF m 225 #[.val (.int p0_0), .val (.int p0_1), .val (.int p0_2), .val (.int p0_3), .val (.int (3 : Int32)), .val (.ref u_SYMBOL), .val (.int zt), .val (.int zs), .val (.int zc1), .val (.int zc2), .val (.int zc3), .val (.int zd1), .val (.int zd2), .val (.int zd3), .val (.ref x3_420), .val (.ref x3_448), .val (.ref b476), .unset] [(.int zd2)])) _
                refine XS.ifNo X514.here hx rfl (hb hby at_225) rfl ((if0 _ _).trans (teq hc225_554).2) ?_
                show Steps p.tables e below (T514.setTop (mkF m 228 #[.val (.int p0_0), .val (.int p0_1), .val (.int p0_2), .val (.int p0_3), .val (.int (3 : Int32)), .val (.ref u_SYMBOL), .val (.int zt), .val (.int zs), .val (.int zc1), .val (.int zc2), .val (.int zc3), .val (.int zd1), .val (.int zd2), .val (.int zd3), .val (.ref x3_420), .val (.ref x3_448), .val (.ref b476), .unset] [])) _
                refine XS.iload X514.here hx rfl (hb hby at_228) rfl ?_
                show Steps p.tables e below (T514.setTop (mkF m 230 #[.val (.int p0_0), .val (.int p0_1), .val (.int p0_2), .val (.int p0_3), .val (.int (3 : Int32)), .val (.ref u_SYMBOL), .val (.int zt), .val (.int zs), .val (.int zc1), .val (.int zc2), .val (.int zc3), .val (.int zd1), .val (.int zd2), .val (.int zd3), .val (.ref x3_420), .val (.ref x3_448), .val (.ref b476), .unset] [(.int zt)])) _
                refine XS.iconst X514.here hx rfl (hb hby at_230) ?_
                by_cases hc231_555 : zt < (3 : Int32)
                · skip
                  show Steps p.tables e below (T514.setTop (mkF m 231 #[.val (.int p0_0), .val (.int p0_1), .val (.int p0_2), .val (.int p0_3), .val (.int (3 : Int32)), .val (.ref u_SYMBOL), .val (.int zt), .val (.int zs), .val (.int zc1), .val (.int zc2), .val (.int zc3), .val (.int zd1), .val (.int zd2), .val (.int zd3), .val (.ref x3_420), .val (.ref x3_448), .val (.ref b476), .unset] [(.int (3 : Int32)), (.int zt)])) _
                  refine XS.icmpYes X514.here hx rfl (pc0 := 231) (pc' := 239) rfl (hb hby at_231) rfl (tlt hc231_555).1 (by decide) (by decide) ?_
                  show Steps p.tables e below (T514.setTop (mkF m 239 #[.val (.int p0_0), .val (.int p0_1), .val (.int p0_2), .val (.int p0_3), .val (.int (3 : Int32)), .val (.ref u_SYMBOL), .val (.int zt), .val (.int zs), .val (.int zc1), .val (.int zc2), .val (.int zc3), .val (.int zd1), .val (.int zd2), .val (.int zd3), .val (.ref x3_420), .val (.ref x3_448), .val (.ref b476), .unset] [])) _
                  refine XS.iconst X514.here hx rfl (hb hby at_239) ?_
                  show Steps p.tables e below (T514.setTop (mkF m 240 #[.val (.int p0_0), .val (.int p0_1), .val (.int p0_2), .val (.int p0_3), .val (.int (3 : Int32)), .val (.ref u_SYMBOL), .val (.int zt), .val (.int zs), .val (.int zc1), .val (.int zc2), .val (.int zc3), .val (.int zd1), .val (.int zd2), .val (.int zd3), .val (.ref x3_420), .val (.ref x3_448), .val (.ref b476), .unset] [(.int (1 : Int32))])) _
                  refine XS.goto X514.here hx rfl (pc0 := 240) (pc' := 244) rfl (hb hby at_240) (by decide) (by decide) ?_
                  rw [show v557 = (1 : Int32) from hv557.trans (by rw [if_pos hc203_542, if_neg hc209_543, if_pos hc214_550, if_neg hc220_551, if_pos hc225_554, if_pos hc231_555])] at k
                  exact k
                · skip
                  show Steps p.tables e below (T514.setTop (mkF m 231 #[.val (.int p0_0), .val (.int p0_1), .val (.int p0_2), .val (.int p0_3), .val (.int (3 : Int32)), .val (.ref u_SYMBOL), .val (.int zt), .val (.int zs), .val (.int zc1), .val (.int zc2), .val (.int zc3), .val (.int zd1), .val (.int zd2), .val (.int zd3), .val (.ref x3_420), .val (.ref x3_448), .val (.ref b476), .unset] [(.int (3 : Int32)), (.int zt)])) _
                  refine XS.icmpNo X514.here hx rfl (hb hby at_231) rfl (flt hc231_555).1 ?_
                  show Steps p.tables e below (T514.setTop (mkF m 234 #[.val (.int p0_0), .val (.int p0_1), .val (.int p0_2), .val (.int p0_3), .val (.int (3 : Int32)), .val (.ref u_SYMBOL), .val (.int zt), .val (.int zs), .val (.int zc1), .val (.int zc2), .val (.int zc3), .val (.int zd1), .val (.int zd2), .val (.int zd3), .val (.ref x3_420), .val (.ref x3_448), .val (.ref b476), .unset] [])) _
                  refine XS.iload X514.here hx rfl (hb hby at_234) rfl ?_
                  by_cases hc236_556 : zd3 = (0 : Int32)
                  · skip
                    show Steps p.tables e below (T514.setTop (mkF m 236 #[.val (.int p0_0), .val (.int p0_1), .val (.int p0_2), .val (.int p0_3), .val (.int (3 : Int32)), .val (.ref u_SYMBOL), .val (.int zt), .val (.int zs), .val (.int zc1), .val (.int zc2), .val (.int zc3), .val (.int zd1), .val (.int zd2), .val (.int zd3), .val (.ref x3_420), .val (.ref x3_448), .val (.ref b476), .unset] [(.int zd3)])) _
                    refine XS.ifNo X514.here hx rfl (hb hby at_236) rfl ((if0 _ _).trans (teq hc236_556).2) ?_
                    show Steps p.tables e below (T514.setTop (mkF m 239 #[.val (.int p0_0), .val (.int p0_1), .val (.int p0_2), .val (.int p0_3), .val (.int (3 : Int32)), .val (.ref u_SYMBOL), .val (.int zt), .val (.int zs), .val (.int zc1), .val (.int zc2), .val (.int zc3), .val (.int zd1), .val (.int zd2), .val (.int zd3), .val (.ref x3_420), .val (.ref x3_448), .val (.ref b476), .unset] [])) _
                    refine XS.iconst X514.here hx rfl (hb hby at_239) ?_
                    show Steps p.tables e below (T514.setTop (mkF m 240 #[.val (.int p0_0), .val (.int p0_1), .val (.int p0_2), .val (.int p0_3), .val (.int (3 : Int32)), .val (.ref u_SYMBOL), .val (.int zt), .val (.int zs), .val (.int zc1), .val (.int zc2), .val (.int zc3), .val (.int zd1), .val (.int zd2), .val (.int zd3), .val (.ref x3_420), .val (.ref x3_448), .val (.ref b476), .unset] [(.int (1 : Int32))])) _
                    refine XS.goto X514.here hx rfl (pc0 := 240) (pc' := 244) rfl (hb hby at_240) (by decide) (by decide) ?_
                    rw [show v557 = (1 : Int32) from hv557.trans (by rw [if_pos hc203_542, if_neg hc209_543, if_pos hc214_550, if_neg hc220_551, if_pos hc225_554, if_neg hc231_555, if_pos hc236_556])] at k
                    exact k
                  · skip
                    show Steps p.tables e below (T514.setTop (mkF m 236 #[.val (.int p0_0), .val (.int p0_1), .val (.int p0_2), .val (.int p0_3), .val (.int (3 : Int32)), .val (.ref u_SYMBOL), .val (.int zt), .val (.int zs), .val (.int zc1), .val (.int zc2), .val (.int zc3), .val (.int zd1), .val (.int zd2), .val (.int zd3), .val (.ref x3_420), .val (.ref x3_448), .val (.ref b476), .unset] [(.int zd3)])) _
                    refine XS.ifYes X514.here hx rfl (pc0 := 236) (pc' := 243) rfl (hb hby at_236) rfl ((if0 _ _).trans (feq hc236_556).2) (by decide) (by decide) ?_
                    show Steps p.tables e below (T514.setTop (mkF m 243 #[.val (.int p0_0), .val (.int p0_1), .val (.int p0_2), .val (.int p0_3), .val (.int (3 : Int32)), .val (.ref u_SYMBOL), .val (.int zt), .val (.int zs), .val (.int zc1), .val (.int zc2), .val (.int zc3), .val (.int zd1), .val (.int zd2), .val (.int zd3), .val (.ref x3_420), .val (.ref x3_448), .val (.ref b476), .unset] [])) _
                    refine XS.iconst X514.here hx rfl (hb hby at_243) ?_
                    rw [show v557 = (0 : Int32) from hv557.trans (by rw [if_pos hc203_542, if_neg hc209_543, if_pos hc214_550, if_neg hc220_551, if_pos hc225_554, if_neg hc231_555, if_neg hc236_556])] at k
                    exact k
              · skip
                show Steps p.tables e below (T514.setTop (mkF m 225 #[.val (.int p0_0), .val (.int p0_1), .val (.int p0_2), .val (.int p0_3), .val (.int (3 : Int32)), .val (.ref u_SYMBOL), .val (.int zt), .val (.int zs), .val (.int zc1), .val (.int zc2), .val (.int zc3), .val (.int zd1), .val (.int zd2), .val (.int zd3), .val (.ref x3_420), .val (.ref x3_448), .val (.ref b476), .unset] [(.int zd2)])) _
                refine XS.ifYes X514.here hx rfl (pc0 := 225) (pc' := 243) rfl (hb hby at_225) rfl ((if0 _ _).trans (feq hc225_554).2) (by decide) (by decide) ?_
                show Steps p.tables e below (T514.setTop (mkF m 243 #[.val (.int p0_0), .val (.int p0_1), .val (.int p0_2), .val (.int p0_3), .val (.int (3 : Int32)), .val (.ref u_SYMBOL), .val (.int zt), .val (.int zs), .val (.int zc1), .val (.int zc2), .val (.int zc3), .val (.int zd1), .val (.int zd2), .val (.int zd3), .val (.ref x3_420), .val (.ref x3_448), .val (.ref b476), .unset] [])) _
                refine XS.iconst X514.here hx rfl (hb hby at_243) ?_
                rw [show v557 = (0 : Int32) from hv557.trans (by rw [if_pos hc203_542, if_neg hc209_543, if_pos hc214_550, if_neg hc220_551, if_neg hc225_554])] at k
                exact k
          · skip
            show Steps p.tables e below (T514.setTop (mkF m 214 #[.val (.int p0_0), .val (.int p0_1), .val (.int p0_2), .val (.int p0_3), .val (.int (3 : Int32)), .val (.ref u_SYMBOL), .val (.int zt), .val (.int zs), .val (.int zc1), .val (.int zc2), .val (.int zc3), .val (.int zd1), .val (.int zd2), .val (.int zd3), .val (.ref x3_420), .val (.ref x3_448), .val (.ref b476), .unset] [(.int zd1)])) _
            refine XS.ifYes X514.here hx rfl (pc0 := 214) (pc' := 243) rfl (hb hby at_214) rfl ((if0 _ _).trans (feq hc214_550).2) (by decide) (by decide) ?_
            show Steps p.tables e below (T514.setTop (mkF m 243 #[.val (.int p0_0), .val (.int p0_1), .val (.int p0_2), .val (.int p0_3), .val (.int (3 : Int32)), .val (.ref u_SYMBOL), .val (.int zt), .val (.int zs), .val (.int zc1), .val (.int zc2), .val (.int zc3), .val (.int zd1), .val (.int zd2), .val (.int zd3), .val (.ref x3_420), .val (.ref x3_448), .val (.ref b476), .unset] [])) _
            refine XS.iconst X514.here hx rfl (hb hby at_243) ?_
            rw [show v557 = (0 : Int32) from hv557.trans (by rw [if_pos hc203_542, if_neg hc209_543, if_neg hc214_550])] at k
            exact k
      · skip
        show Steps p.tables e below (T514.setTop (mkF m 203 #[.val (.int p0_0), .val (.int p0_1), .val (.int p0_2), .val (.int p0_3), .val (.int (3 : Int32)), .val (.ref u_SYMBOL), .val (.int zt), .val (.int zs), .val (.int zc1), .val (.int zc2), .val (.int zc3), .val (.int zd1), .val (.int zd2), .val (.int zd3), .val (.ref x3_420), .val (.ref x3_448), .val (.ref b476), .unset] [(.int zs), (.int zt)])) _
        refine XS.icmpYes X514.here hx rfl (pc0 := 203) (pc' := 243) rfl (hb hby at_203) rfl (feq hc203_542).2 (by decide) (by decide) ?_
        show Steps p.tables e below (T514.setTop (mkF m 243 #[.val (.int p0_0), .val (.int p0_1), .val (.int p0_2), .val (.int p0_3), .val (.int (3 : Int32)), .val (.ref u_SYMBOL), .val (.int zt), .val (.int zs), .val (.int zc1), .val (.int zc2), .val (.int zc3), .val (.int zd1), .val (.int zd2), .val (.int zd3), .val (.ref x3_420), .val (.ref x3_448), .val (.ref b476), .unset] [])) _
        refine XS.iconst X514.here hx rfl (hb hby at_243) ?_
        rw [show v557 = (0 : Int32) from hv557.trans (by rw [if_neg hc203_542])] at k
        exact k
    obtain ⟨cq559, kq559, q559a, q559b, q559c⟩ := isOf hZ rfl G514_0
    obtain ⟨_, _, ⟨T559, L559, k559, n559⟩, -, X559, ⟨Lc559, hQ559, l559, y559, z559⟩, st559⟩ := X514.virtualBack hx (y := (⟨"com/example/oyster/oyster/engine/Tokens$Token", "isSymbol", "(Ljava/lang/String;)Z"⟩ : MethodName)) (z := (⟨"com/example/oyster/oyster/engine/Tokens$Token", "isSymbol", "(Ljava/lang/String;)Z"⟩ : MethodName)) hown (mvT hZ (hw _ (List.mem_of_getElem? (i := 56) rfl))) (mvT hZ (hw _ (List.mem_of_getElem? (i := 57) rfl))) (notFace_of_selects (args := #[]) (mvT hZ (hw _ (List.mem_of_getElem? (i := 59) rfl)))) (mvT hZ (hw _ (List.mem_of_getElem? (i := 59) rfl))) (mvT hZ (hw _ (List.mem_of_getElem? (i := 58) rfl))) (by decide) (backOf (W := 0) (rm8 l Z a0 hw [] b476 x3_448 u_SYMBOL x3_420 d3_420 d3_448 kv3_420 kv3_448 cs (own_mk zt zc1 zc2 zc3) (own_mk zs zx1 zx2 zx3) T514.heap n0 Zs514 G514_1 G514_2 F518 F531 F532 F533 F534 F535 F536 F537 F538 F539 hcs (own_mkr ⟨hr_zc1.1, hr_zc1.2⟩ ⟨hr_zc2.1, hr_zc2.2⟩ ⟨hr_zc3.1, hr_zc3.2⟩) (own_mkr ⟨hr_zx1.1, hr_zx1.2⟩ ⟨hr_zx2.1, hr_zx2.2⟩ ⟨hr_zx3.1, hr_zx3.2⟩) own_mkl own_mkl) hZ (hw _ (List.mem_of_getElem? (i := 60) rfl)) (hw _ (List.mem_of_getElem? (i := 40) rfl)) (by decide) (by decide)) q559a q559c (g := (mkF m 250 #[.val (.int p0_0), .val (.int p0_1), .val (.int p0_2), .val (.int p0_3), .val (.int (3 : Int32)), .val (.ref u_SYMBOL), .val (.int zt), .val (.int zs), .val (.int zc1), .val (.int zc2), .val (.int zc3), .val (.int zd1), .val (.int zd2), .val (.int zd3), .val (.ref x3_420), .val (.ref x3_448), .val (.ref b476), .val (.int v557)] [(.ref x3_448), (.ref b476)])) rfl (by rw [hml]; rfl) (Steps.refl _) (argsL := [(.ref x3_448)]) (rest := []) (lenOf pd_6 rfl) rfl (by show 2 * 0 + _ ≤ _; exact Nat.le_of_eq rfl) (hb hby at_250) (fun _ _ => ⟨rfl, rfl, (by decide : 13 + 0 ≤ _), (by decide : 27 + 0 ≤ _)⟩)
    dsimp only [Pt.U, Pt.locs, Pt.cells, Pt.slots] at X559 l559 y559 z559 st559 hQ559
    subst l559 y559 z559
    obtain ⟨rfl, N559q, eh559⟩ := hQ559
    have N559 := Fr.app N514 N559q
    have k560 : ∀ t, Steps p.tables e below (T559.setTop (mkF m 263 #[.val (.int p0_0), .val (.int p0_1), .val (.int p0_2), .val (.int p0_3), .val (.int (3 : Int32)), .val (.ref u_SYMBOL), .val (.int zt), .val (.int zs), .val (.int zc1), .val (.int zc2), .val (.int zc3), .val (.int zd1), .val (.int zd2), .val (.int zd3), .val (.ref x3_420), .val (.ref x3_448), .val (.ref b476), .val (.int v557)] [(.int (1 : Int32))])) t → Steps p.tables e below (s₁.setTop (entryFrame m #[(.int p0_0), (.int p0_1), (.int p0_2), (.int p0_3)] maxLocals)) t := by
      intro t k
      refine k558 t ?_
      show Steps p.tables e below (T514.setTop (mkF m 244 #[.val (.int p0_0), .val (.int p0_1), .val (.int p0_2), .val (.int p0_3), .val (.int (3 : Int32)), .val (.ref u_SYMBOL), .val (.int zt), .val (.int zs), .val (.int zc1), .val (.int zc2), .val (.int zc3), .val (.int zd1), .val (.int zd2), .val (.int zd3), .val (.ref x3_420), .val (.ref x3_448), .val (.ref b476), .unset] [(.int v557)])) _
      refine XS.istore X514.here hx rfl (hb hby at_244) rfl (l' := #[.val (.int p0_0), .val (.int p0_1), .val (.int p0_2), .val (.int p0_3), .val (.int (3 : Int32)), .val (.ref u_SYMBOL), .val (.int zt), .val (.int zs), .val (.int zc1), .val (.int zc2), .val (.int zc3), .val (.int zd1), .val (.int zd2), .val (.int zd3), .val (.ref x3_420), .val (.ref x3_448), .val (.ref b476), .val (.int v557)]) rfl ?_
      show Steps p.tables e below (T514.setTop (mkF m 246 #[.val (.int p0_0), .val (.int p0_1), .val (.int p0_2), .val (.int p0_3), .val (.int (3 : Int32)), .val (.ref u_SYMBOL), .val (.int zt), .val (.int zs), .val (.int zc1), .val (.int zc2), .val (.int zc3), .val (.int zd1), .val (.int zd2), .val (.int zd3), .val (.ref x3_420), .val (.ref x3_448), .val (.ref b476), .val (.int v557)] [])) _
      refine XS.aload X514.here hx rfl (hb hby at_246) rfl rfl ?_
      show Steps p.tables e below (T514.setTop (mkF m 248 #[.val (.int p0_0), .val (.int p0_1), .val (.int p0_2), .val (.int p0_3), .val (.int (3 : Int32)), .val (.ref u_SYMBOL), .val (.int zt), .val (.int zs), .val (.int zc1), .val (.int zc2), .val (.int zc3), .val (.int zd1), .val (.int zd2), .val (.int zd3), .val (.ref x3_420), .val (.ref x3_448), .val (.ref b476), .val (.int v557)] [(.ref b476)])) _
      refine XS.aload X514.here hx rfl (hb hby at_248) rfl rfl ?_
      show Steps p.tables e below (T514.setTop (mkF m 250 #[.val (.int p0_0), .val (.int p0_1), .val (.int p0_2), .val (.int p0_3), .val (.int (3 : Int32)), .val (.ref u_SYMBOL), .val (.int zt), .val (.int zs), .val (.int zc1), .val (.int zc2), .val (.int zc3), .val (.int zd1), .val (.int zd2), .val (.int zd3), .val (.ref x3_420), .val (.ref x3_448), .val (.ref b476), .val (.int v557)] [(.ref x3_448), (.ref b476)])) _
      refine st559.trans ?_
      show Steps p.tables e below (T559.setTop (mkF m 253 #[.val (.int p0_0), .val (.int p0_1), .val (.int p0_2), .val (.int p0_3), .val (.int (3 : Int32)), .val (.ref u_SYMBOL), .val (.int zt), .val (.int zs), .val (.int zc1), .val (.int zc2), .val (.int zc3), .val (.int zd1), .val (.int zd2), .val (.int zd3), .val (.ref x3_420), .val (.ref x3_448), .val (.ref b476), .val (.int v557)] [(.int (own_sym (own_mk zt zc1 zc2 zc3) (own_mk zs zx1 zx2 zx3)))])) _
      refine XS.iload X559.here hx rfl (hb hby at_253) rfl ?_
      show Steps p.tables e below (T559.setTop (mkF m 255 #[.val (.int p0_0), .val (.int p0_1), .val (.int p0_2), .val (.int p0_3), .val (.int (3 : Int32)), .val (.ref u_SYMBOL), .val (.int zt), .val (.int zs), .val (.int zc1), .val (.int zc2), .val (.int zc3), .val (.int zd1), .val (.int zd2), .val (.int zd3), .val (.ref x3_420), .val (.ref x3_448), .val (.ref b476), .val (.int v557)] [(.int v557), (.int (own_sym (own_mk zt zc1 zc2 zc3) (own_mk zs zx1 zx2 zx3)))])) _
      refine XS.icmpNo X559.here hx rfl (hb hby at_255) rfl (teq (by rw [hv557]; exact own_fin zt zs zc1 zc2 zc3 zx1 zx2 zx3 zd1 zd2 zd3 (by rw [hzt]; exact own_m3 _) (by rw [hzs]; exact own_m3 _) (own_xiff hzx1) (own_xiff hzx2) (own_xiff hzx3))).2 ?_
      show Steps p.tables e below (T559.setTop (mkF m 258 #[.val (.int p0_0), .val (.int p0_1), .val (.int p0_2), .val (.int p0_3), .val (.int (3 : Int32)), .val (.ref u_SYMBOL), .val (.int zt), .val (.int zs), .val (.int zc1), .val (.int zc2), .val (.int zc3), .val (.int zd1), .val (.int zd2), .val (.int zd3), .val (.ref x3_420), .val (.ref x3_448), .val (.ref b476), .val (.int v557)] [])) _
      refine XS.iconst X559.here hx rfl (hb hby at_258) ?_
      show Steps p.tables e below (T559.setTop (mkF m 259 #[.val (.int p0_0), .val (.int p0_1), .val (.int p0_2), .val (.int p0_3), .val (.int (3 : Int32)), .val (.ref u_SYMBOL), .val (.int zt), .val (.int zs), .val (.int zc1), .val (.int zc2), .val (.int zc3), .val (.int zd1), .val (.int zd2), .val (.int zd3), .val (.ref x3_420), .val (.ref x3_448), .val (.ref b476), .val (.int v557)] [(.int (1 : Int32))])) _
      refine XS.goto X559.here hx rfl (pc0 := 259) (pc' := 263) rfl (hb hby at_259) (by decide) (by decide) ?_
      exact k
    obtain ⟨fs, hr, hrun, hended, hE1, hE2, hE3, hE4⟩ := X559.leaveW hS (by rw [eh559]; exact hk) (v := some (.int (1 : Int32))) (fun h => by rw [Bd.returns] at h; cases h)
    have hCE := hCR.trans (CHv.at X559 hZ hEL hCR.1)
    refine ⟨_, _, k560 _ ?_, hrun, hended, _, _, rfl, ?_, (by show CHr Z consts_1 s.vm s.heap T559.vm T559.heap; rw [hh, eh559]; exact hCE), ⟨_, rfl⟩, hE2, hE3, hE4.mono (by decide) (by decide)⟩
    · exact retN X559 hx (t := .boolean) Bd.returns (by simp) (hb hby at_263) hr
    · show Q0 Z p0_0 p0_1 p0_2 p0_3 u_NUMBER u_SYMBOL u_NAME u_END u_STRING cs h0 n0 _ T559.heap _
      rw [eh559]
      exact ⟨rfl, N559⟩
  · skip
    obtain ⟨T561, X561, e561, st561⟩ := getS2 X0 hx hZ hown (host := "") (Or.inl (hw _ (List.mem_of_getElem? (i := 68) rfl))) Via.refl e0 S_END (g := (mkF m 63 #[.val (.int p0_0), .val (.int p0_1), .val (.int p0_2), .val (.int p0_3), .val (.int (4 : Int32)), .unset, .unset, .unset, .unset, .unset, .unset, .unset, .unset, .unset, .unset, .unset, .unset, .unset] [])) rfl (hb hby at_63)
    have k562 : ∀ t, Steps p.tables e below (T561.setTop (mkF m 71 #[.val (.int p0_0), .val (.int p0_1), .val (.int p0_2), .val (.int p0_3), .val (.int (4 : Int32)), .val (.ref u_END), .unset, .unset, .unset, .unset, .unset, .unset, .unset, .unset, .unset, .unset, .unset, .unset] [(.int (p0_1 &&& (3 : Int32)))])) t → Steps p.tables e below (s₁.setTop (entryFrame m #[(.int p0_0), (.int p0_1), (.int p0_2), (.int p0_3)] maxLocals)) t := by
      intro t k
      refine k1 t ?_
      show Steps p.tables e below (s₁.setTop (mkF m 8 #[.val (.int p0_0), .val (.int p0_1), .val (.int p0_2), .val (.int p0_3), .val (.int (4 : Int32)), .unset, .unset, .unset, .unset, .unset, .unset, .unset, .unset, .unset, .unset, .unset, .unset, .unset] [])) _
      refine XS.iload X0.here hx rfl (hb hby at_8) rfl ?_
      show Steps p.tables e below (s₁.setTop (mkF m 10 #[.val (.int p0_0), .val (.int p0_1), .val (.int p0_2), .val (.int p0_3), .val (.int (4 : Int32)), .unset, .unset, .unset, .unset, .unset, .unset, .unset, .unset, .unset, .unset, .unset, .unset, .unset] [(.int (4 : Int32))])) _
      refine XS.ifYes X0.here hx rfl (pc0 := 10) (pc' := 21) rfl (hb hby at_10) rfl ((if0 _ _).trans (feq (by decide : ¬ ((4 : Int32) = (0 : Int32)))).2) (by decide) (by decide) ?_
      show Steps p.tables e below (s₁.setTop (mkF m 21 #[.val (.int p0_0), .val (.int p0_1), .val (.int p0_2), .val (.int p0_3), .val (.int (4 : Int32)), .unset, .unset, .unset, .unset, .unset, .unset, .unset, .unset, .unset, .unset, .unset, .unset, .unset] [])) _
      refine XS.iload X0.here hx rfl (hb hby at_21) rfl ?_
      show Steps p.tables e below (s₁.setTop (mkF m 23 #[.val (.int p0_0), .val (.int p0_1), .val (.int p0_2), .val (.int p0_3), .val (.int (4 : Int32)), .unset, .unset, .unset, .unset, .unset, .unset, .unset, .unset, .unset, .unset, .unset, .unset, .unset] [(.int (4 : Int32))])) _
      refine XS.iconst X0.here hx rfl (hb hby at_23) ?_
      show Steps p.tables e below (s₁.setTop (mkF m 24 #[.val (.int p0_0), .val (.int p0_1), .val (.int p0_2), .val (.int p0_3), .val (.int (4 : Int32)), .unset, .unset, .unset, .unset, .unset, .unset, .unset, .unset, .unset, .unset, .unset, .unset, .unset] [(.int (1 : Int32)), (.int (4 : Int32))])) _
      refine XS.icmpYes X0.here hx rfl (pc0 := 24) (pc' := 35) rfl (hb hby at_24) rfl (feq (by decide : ¬ ((4 : Int32) = (1 : Int32)))).2 (by decide) (by decide) ?_
      show Steps p.tables e below (s₁.setTop (mkF m 35 #[.val (.int p0_0), .val (.int p0_1), .val (.int p0_2), .val (.int p0_3), .val (.int (4 : Int32)), .unset, .unset, .unset, .unset, .unset, .unset, .unset, .unset, .unset, .unset, .unset, .unset, .unset] [])) _
      refine XS.iload X0.here hx rfl (hb hby at_35) rfl ?_
      show Steps p.tables e below (s₁.setTop (mkF m 37 #[.val (.int p0_0), .val (.int p0_1), .val (.int p0_2), .val (.int p0_3), .val (.int (4 : Int32)), .unset, .unset, .unset, .unset, .unset, .unset, .unset, .unset, .unset, .unset, .unset, .unset, .unset] [(.int (4 : Int32))])) _
      refine XS.iconst X0.here hx rfl (hb hby at_37) ?_
      show Steps p.tables e below (s₁.setTop (mkF m 38 #[.val (.int p0_0), .val (.int p0_1), .val (.int p0_2), .val (.int p0_3), .val (.int (4 : Int32)), .unset, .unset, .unset, .unset, .unset, .unset, .unset, .unset, .unset, .unset, .unset, .unset, .unset] [(.int (2 : Int32)), (.int (4 : Int32))])) _
      refine XS.icmpYes X0.here hx rfl (pc0 := 38) (pc' := 49) rfl (hb hby at_38) rfl (feq (by decide : ¬ ((4 : Int32) = (2 : Int32)))).2 (by decide) (by decide) ?_
      show Steps p.tables e below (s₁.setTop (mkF m 49 #[.val (.int p0_0), .val (.int p0_1), .val (.int p0_2), .val (.int p0_3), .val (.int (4 : Int32)), .unset, .unset, .unset, .unset, .unset, .unset, .unset, .unset, .unset, .unset, .unset, .unset, .unset] [])) _
      refine XS.iload X0.here hx rfl (hb hby at_49) rfl ?_
      show Steps p.tables e below (s₁.setTop (mkF m 51 #[.val (.int p0_0), .val (.int p0_1), .val (.int p0_2), .val (.int p0_3), .val (.int (4 : Int32)), .unset, .unset, .unset, .unset, .unset, .unset, .unset, .unset, .unset, .unset, .unset, .unset, .unset] [(.int (4 : Int32))])) _
      refine XS.iconst X0.here hx rfl (hb hby at_51) ?_
      show Steps p.tables e below (s₁.setTop (mkF m 52 #[.val (.int p0_0), .val (.int p0_1), .val (.int p0_2), .val (.int p0_3), .val (.int (4 : Int32)), .unset, .unset, .unset, .unset, .unset, .unset, .unset, .unset, .unset, .unset, .unset, .unset, .unset] [(.int (3 : Int32)), (.int (4 : Int32))])) _
      refine XS.icmpYes X0.here hx rfl (pc0 := 52) (pc' := 63) rfl (hb hby at_52) rfl (feq (by decide : ¬ ((4 : Int32) = (3 : Int32)))).2 (by decide) (by decide) ?_
      show Steps p.tables e below (s₁.setTop (mkF m 63 #[.val (.int p0_0), .val (.int p0_1), .val (.int p0_2), .val (.int p0_3), .val (.int (4 : Int32)), .unset, .unset, .unset, .unset, .unset, .unset, .unset, .unset, .unset, .unset, .unset, .unset, .unset] [])) _
      refine st561 _ ?_
      show Steps p.tables e below (T561.setTop (mkF m 66 #[.val (.int p0_0), .val (.int p0_1), .val (.int p0_2), .val (.int p0_3), .val (.int (4 : Int32)), .unset, .unset, .unset, .unset, .unset, .unset, .unset, .unset, .unset, .unset, .unset, .unset, .unset] [(.ref u_END)])) _
      refine XS.astore X561.here hx rfl (hb hby at_66) rfl rfl (l' := #[.val (.int p0_0), .val (.int p0_1), .val (.int p0_2), .val (.int p0_3), .val (.int (4 : Int32)), .val (.ref u_END), .unset, .unset, .unset, .unset, .unset, .unset, .unset, .unset, .unset, .unset, .unset, .unset]) rfl ?_
      show Steps p.tables e below (T561.setTop (mkF m 68 #[.val (.int p0_0), .val (.int p0_1), .val (.int p0_2), .val (.int p0_3), .val (.int (4 : Int32)), .val (.ref u_END), .unset, .unset, .unset, .unset, .unset, .unset, .unset, .unset, .unset, .unset, .unset, .unset] [])) _
      refine XS.iloadN X561.here hx rfl (hb hby at_68) rfl ?_
      show Steps p.tables e below (T561.setTop (mkF m 69 #[.val (.int p0_0), .val (.int p0_1), .val (.int p0_2), .val (.int p0_3), .val (.int (4 : Int32)), .val (.ref u_END), .unset, .unset, .unset, .unset, .unset, .unset, .unset, .unset, .unset, .unset, .unset, .unset] [(.int p0_1)])) _
      refine XS.iconst X561.here hx rfl (hb hby at_69) ?_
      show Steps p.tables e below (T561.setTop (mkF m 70 #[.val (.int p0_0), .val (.int p0_1), .val (.int p0_2), .val (.int p0_3), .val (.int (4 : Int32)), .val (.ref u_END), .unset, .unset, .unset, .unset, .unset, .unset, .unset, .unset, .unset, .unset, .unset, .unset] [(.int (3 : Int32)), (.int p0_1)])) _
      refine XS.iand X561.here hx rfl (hb hby at_70) rfl ?_
      exact k
    obtain ⟨zt, hzt⟩ : ∃ z, z = (p0_1 &&& (3 : Int32)) := ⟨_, rfl⟩
    rw [← hzt] at k562
    have k563 : ∀ t, Steps p.tables e below (T561.setTop (mkF m 76 #[.val (.int p0_0), .val (.int p0_1), .val (.int p0_2), .val (.int p0_3), .val (.int (4 : Int32)), .val (.ref u_END), .val (.int zt), .unset, .unset, .unset, .unset, .unset, .unset, .unset, .unset, .unset, .unset, .unset] [(.int (p0_2 &&& (3 : Int32)))])) t → Steps p.tables e below (s₁.setTop (entryFrame m #[(.int p0_0), (.int p0_1), (.int p0_2), (.int p0_3)] maxLocals)) t := by
      intro t k
      refine k562 t ?_
      show Steps p.tables e below (T561.setTop (mkF m 71 #[.val (.int p0_0), .val (.int p0_1), .val (.int p0_2), .val (.int p0_3), .val (.int (4 : Int32)), .val (.ref u_END), .unset, .unset, .unset, .unset, .unset, .unset, .unset, .unset, .unset, .unset, .unset, .unset] [(.int zt)])) _
      refine XS.istore X561.here hx rfl (hb hby at_71) rfl (l' := #[.val (.int p0_0), .val (.int p0_1), .val (.int p0_2), .val (.int p0_3), .val (.int (4 : Int32)), .val (.ref u_END), .val (.int zt), .unset, .unset, .unset, .unset, .unset, .unset, .unset, .unset, .unset, .unset, .unset]) rfl ?_
      show Steps p.tables e below (T561.setTop (mkF m 73 #[.val (.int p0_0), .val (.int p0_1), .val (.int p0_2), .val (.int p0_3), .val (.int (4 : Int32)), .val (.ref u_END), .val (.int zt), .unset, .unset, .unset, .unset, .unset, .unset, .unset, .unset, .unset, .unset, .unset] [])) _
      refine XS.iloadN X561.here hx rfl (hb hby at_73) rfl ?_
      show Steps p.tables e below (T561.setTop (mkF m 74 #[.val (.int p0_0), .val (.int p0_1), .val (.int p0_2), .val (.int p0_3), .val (.int (4 : Int32)), .val (.ref u_END), .val (.int zt), .unset, .unset, .unset, .unset, .unset, .unset, .unset, .unset, .unset, .unset, .unset] [(.int p0_2)])) _
      refine XS.iconst X561.here hx rfl (hb hby at_74) ?_
      show Steps p.tables e below (T561.setTop (mkF m 75 #[.val (.int p0_0), .val (.int p0_1), .val (.int p0_2), .val (.int p0_3), .val (.int (4 : Int32)), .val (.ref u_END), .val (.int zt), .unset, .unset, .unset, .unset, .unset, .unset, .unset, .unset, .unset, .unset, .unset] [(.int (3 : Int32)), (.int p0_2)])) _
      refine XS.iand X561.here hx rfl (hb hby at_75) rfl ?_
      exact k
    obtain ⟨zs, hzs⟩ : ∃ z, z = (p0_2 &&& (3 : Int32)) := ⟨_, rfl⟩
    rw [← hzs] at k563
    have k564 : ∀ t, Steps p.tables e below (T561.setTop (mkF m 86 #[.val (.int p0_0), .val (.int p0_1), .val (.int p0_2), .val (.int p0_3), .val (.int (4 : Int32)), .val (.ref u_END), .val (.int zt), .val (.int zs), .unset, .unset, .unset, .unset, .unset, .unset, .unset, .unset, .unset, .unset] [(.int (((p0_1.toUInt32 >>> ((8 : Int32) &&& 31).toUInt32).toInt32) &&& (255 : Int32)))])) t → Steps p.tables e below (s₁.setTop (entryFrame m #[(.int p0_0), (.int p0_1), (.int p0_2), (.int p0_3)] maxLocals)) t := by
      intro t k
      refine k563 t ?_
      show Steps p.tables e below (T561.setTop (mkF m 76 #[.val (.int p0_0), .val (.int p0_1), .val (.int p0_2), .val (.int p0_3), .val (.int (4 : Int32)), .val (.ref u_END), .val (.int zt), .unset, .unset, .unset, .unset, .unset, .unset, .unset, .unset, .unset, .unset, .unset] [(.int zs)])) _
      refine XS.istore X561.here hx rfl (hb hby at_76) rfl (l' := #[.val (.int p0_0), .val (.int p0_1), .val (.int p0_2), .val (.int p0_3), .val (.int (4 : Int32)), .val (.ref u_END), .val (.int zt), .val (.int zs), .unset, .unset, .unset, .unset, .unset, .unset, .unset, .unset, .unset, .unset]) rfl ?_
      show Steps p.tables e below (T561.setTop (mkF m 78 #[.val (.int p0_0), .val (.int p0_1), .val (.int p0_2), .val (.int p0_3), .val (.int (4 : Int32)), .val (.ref u_END), .val (.int zt), .val (.int zs), .unset, .unset, .unset, .unset, .unset, .unset, .unset, .unset, .unset, .unset] [])) _
      refine XS.iloadN X561.here hx rfl (hb hby at_78) rfl ?_
      show Steps p.tables e below (T561.setTop (mkF m 79 #[.val (.int p0_0), .val (.int p0_1), .val (.int p0_2), .val (.int p0_3), .val (.int (4 : Int32)), .val (.ref u_END), .val (.int zt), .val (.int zs), .unset, .unset, .unset, .unset, .unset, .unset, .unset, .unset, .unset, .unset] [(.int p0_1)])) _
      refine XS.bipush X561.here hx rfl (hb hby at_79) ?_
      show Steps p.tables e below (T561.setTop (mkF m 81 #[.val (.int p0_0), .val (.int p0_1), .val (.int p0_2), .val (.int p0_3), .val (.int (4 : Int32)), .val (.ref u_END), .val (.int zt), .val (.int zs), .unset, .unset, .unset, .unset, .unset, .unset, .unset, .unset, .unset, .unset] [(.int (8 : Int32)), (.int p0_1)])) _
      refine XS.iushr X561.here hx rfl (hb hby at_81) rfl ?_
      show Steps p.tables e below (T561.setTop (mkF m 82 #[.val (.int p0_0), .val (.int p0_1), .val (.int p0_2), .val (.int p0_3), .val (.int (4 : Int32)), .val (.ref u_END), .val (.int zt), .val (.int zs), .unset, .unset, .unset, .unset, .unset, .unset, .unset, .unset, .unset, .unset] [(.int ((p0_1.toUInt32 >>> ((8 : Int32) &&& 31).toUInt32).toInt32))])) _
      refine XS.sipush X561.here hx rfl (hb hby at_82) ?_
      show Steps p.tables e below (T561.setTop (mkF m 85 #[.val (.int p0_0), .val (.int p0_1), .val (.int p0_2), .val (.int p0_3), .val (.int (4 : Int32)), .val (.ref u_END), .val (.int zt), .val (.int zs), .unset, .unset, .unset, .unset, .unset, .unset, .unset, .unset, .unset, .unset] [(.int (255 : Int32)), (.int ((p0_1.toUInt32 >>> ((8 : Int32) &&& 31).toUInt32).toInt32))])) _
      refine XS.iand X561.here hx rfl (hb hby at_85) rfl ?_
      exact k
    obtain ⟨zc1, hzc1⟩ : ∃ z, z = (((p0_1.toUInt32 >>> ((8 : Int32) &&& 31).toUInt32).toInt32) &&& (255 : Int32)) := ⟨_, rfl⟩
    rw [← hzc1] at k564
    have hr_zc1 : ¬ (zc1 < (0 : Int32)) ∧ ¬ ((255 : Int32) < zc1) := by rw [hzc1]; exact own_m255 _
    have k565 : ∀ t, Steps p.tables e below (T561.setTop (mkF m 96 #[.val (.int p0_0), .val (.int p0_1), .val (.int p0_2), .val (.int p0_3), .val (.int (4 : Int32)), .val (.ref u_END), .val (.int zt), .val (.int zs), .val (.int zc1), .unset, .unset, .unset, .unset, .unset, .unset, .unset, .unset, .unset] [(.int (((p0_1.toUInt32 >>> ((16 : Int32) &&& 31).toUInt32).toInt32) &&& (255 : Int32)))])) t → Steps p.tables e below (s₁.setTop (entryFrame m #[(.int p0_0), (.int p0_1), (.int p0_2), (.int p0_3)] maxLocals)) t := by
      intro t k
      refine k564 t ?_
      show Steps p.tables e below (T561.setTop (mkF m 86 #[.val (.int p0_0), .val (.int p0_1), .val (.int p0_2), .val (.int p0_3), .val (.int (4 : Int32)), .val (.ref u_END), .val (.int zt), .val (.int zs), .unset, .unset, .unset, .unset, .unset, .unset, .unset, .unset, .unset, .unset] [(.int zc1)])) _
      refine XS.istore X561.here hx rfl (hb hby at_86) rfl (l' := #[.val (.int p0_0), .val (.int p0_1), .val (.int p0_2), .val (.int p0_3), .val (.int (4 : Int32)), .val (.ref u_END), .val (.int zt), .val (.int zs), .val (.int zc1), .unset, .unset, .unset, .unset, .unset, .unset, .unset, .unset, .unset]) rfl ?_
      show Steps p.tables e below (T561.setTop (mkF m 88 #[.val (.int p0_0), .val (.int p0_1), .val (.int p0_2), .val (.int p0_3), .val (.int (4 : Int32)), .val (.ref u_END), .val (.int zt), .val (.int zs), .val (.int zc1), .unset, .unset, .unset, .unset, .unset, .unset, .unset, .unset, .unset] [])) _
      refine XS.iloadN X561.here hx rfl (hb hby at_88) rfl ?_
      show Steps p.tables e below (T561.setTop (mkF m 89 #[.val (.int p0_0), .val (.int p0_1), .val (.int p0_2), .val (.int p0_3), .val (.int (4 : Int32)), .val (.ref u_END), .val (.int zt), .val (.int zs), .val (.int zc1), .unset, .unset, .unset, .unset, .unset, .unset, .unset, .unset, .unset] [(.int p0_1)])) _
      refine XS.bipush X561.here hx rfl (hb hby at_89) ?_
      show Steps p.tables e below (T561.setTop (mkF m 91 #[.val (.int p0_0), .val (.int p0_1), .val (.int p0_2), .val (.int p0_3), .val (.int (4 : Int32)), .val (.ref u_END), .val (.int zt), .val (.int zs), .val (.int zc1), .unset, .unset, .unset, .unset, .unset, .unset, .unset, .unset, .unset] [(.int (16 : Int32)), (.int p0_1)])) _
      refine XS.iushr X561.here hx rfl (hb hby at_91) rfl ?_
      show Steps p.tables e below (T561.setTop (mkF m 92 #[.val (.int p0_0), .val (.int p0_1), .val (.int p0_2), .val (.int p0_3), .val (.int (4 : Int32)), .val (.ref u_END), .val (.int zt), .val (.int zs), .val (.int zc1), .unset, .unset, .unset, .unset, .unset, .unset, .unset, .unset, .unset] [(.int ((p0_1.toUInt32 >>> ((16 : Int32) &&& 31).toUInt32).toInt32))])) _
      refine XS.sipush X561.here hx rfl (hb hby at_92) ?_
      show Steps p.tables e below (T561.setTop (mkF m 95 #[.val (.int p0_0), .val (.int p0_1), .val (.int p0_2), .val (.int p0_3), .val (.int (4 : Int32)), .val (.ref u_END), .val (.int zt), .val (.int zs), .val (.int zc1), .unset, .unset, .unset, .unset, .unset, .unset, .unset, .unset, .unset] [(.int (255 : Int32)), (.int ((p0_1.toUInt32 >>> ((16 : Int32) &&& 31).toUInt32).toInt32))])) _
      refine XS.iand X561.here hx rfl (hb hby at_95) rfl ?_
      exact k
    obtain ⟨zc2, hzc2⟩ : ∃ z, z = (((p0_1.toUInt32 >>> ((16 : Int32) &&& 31).toUInt32).toInt32) &&& (255 : Int32)) := ⟨_, rfl⟩
    rw [← hzc2] at k565
    have hr_zc2 : ¬ (zc2 < (0 : Int32)) ∧ ¬ ((255 : Int32) < zc2) := by rw [hzc2]; exact own_m255 _
    have k566 : ∀ t, Steps p.tables e below (T561.setTop (mkF m 106 #[.val (.int p0_0), .val (.int p0_1), .val (.int p0_2), .val (.int p0_3), .val (.int (4 : Int32)), .val (.ref u_END), .val (.int zt), .val (.int zs), .val (.int zc1), .val (.int zc2), .unset, .unset, .unset, .unset, .unset, .unset, .unset, .unset] [(.int (((p0_1.toUInt32 >>> ((24 : Int32) &&& 31).toUInt32).toInt32) &&& (255 : Int32)))])) t → Steps p.tables e below (s₁.setTop (entryFrame m #[(.int p0_0), (.int p0_1), (.int p0_2), (.int p0_3)] maxLocals)) t := by
      intro t k
      refine k565 t ?_
      show Steps p.tables e below (T561.setTop (mkF m 96 #[.val (.int p0_0), .val (.int p0_1), .val (.int p0_2), .val (.int p0_3), .val (.int (4 : Int32)), .val (.ref u_END), .val (.int zt), .val (.int zs), .val (.int zc1), .unset, .unset, .unset, .unset, .unset, .unset, .unset, .unset, .unset] [(.int zc2)])) _
      refine XS.istore X561.here hx rfl (hb hby at_96) rfl (l' := #[.val (.int p0_0), .val (.int p0_1), .val (.int p0_2), .val (.int p0_3), .val (.int (4 : Int32)), .val (.ref u_END), .val (.int zt), .val (.int zs), .val (.int zc1), .val (.int zc2), .unset, .unset, .unset, .unset, .unset, .unset, .unset, .unset]) rfl ?_
      show Steps p.tables e below (T561.setTop (mkF m 98 #[.val (.int p0_0), .val (.int p0_1), .val (.int p0_2), .val (.int p0_3), .val (.int (4 : Int32)), .val (.ref u_END), .val (.int zt), .val (.int zs), .val (.int zc1), .val (.int zc2), .unset, .unset, .unset, .unset, .unset, .unset, .unset, .unset] [])) _
      refine XS.iloadN X561.here hx rfl (hb hby at_98) rfl ?_
      show Steps p.tables e below (T561.setTop (mkF m 99 #[.val (.int p0_0), .val (.int p0_1), .val (.int p0_2), .val (.int p0_3), .val (.int (4 : Int32)), .val (.ref u_END), .val (.int zt), .val (.int zs), .val (.int zc1), .val (.int zc2), .unset, .unset, .unset, .unset, .unset, .unset, .unset, .unset] [(.int p0_1)])) _
      refine XS.bipush X561.here hx rfl (hb hby at_99) ?_
      show Steps p.tables e below (T561.setTop (mkF m 101 #[.val (.int p0_0), .val (.int p0_1), .val (.int p0_2), .val (.int p0_3), .val (.int (4 : Int32)), .val (.ref u_END), .val (.int zt), .val (.int zs), .val (.int zc1), .val (.int zc2), .unset, .unset, .unset, .unset, .unset, .unset, .unset, .unset] [(.int (24 : Int32)), (.int p0_1)])) _
      refine XS.iushr X561.here hx rfl (hb hby at_101) rfl ?_
      show Steps p.tables e below (T561.setTop (mkF m 102 #[.val (.int p0_0), .val (.int p0_1), .val (.int p0_2), .val (.int p0_3), .val (.int (4 : Int32)), .val (.ref u_END), .val (.int zt), .val (.int zs), .val (.int zc1), .val (.int zc2), .unset, .unset, .unset, .unset, .unset, .unset, .unset, .unset] [(.int ((p0_1.toUInt32 >>> ((24 : Int32) &&& 31).toUInt32).toInt32))])) _
      refine XS.sipush X561.here hx rfl (hb hby at_102) ?_
      show Steps p.tables e below (T561.setTop (mkF m 105 #[.val (.int p0_0), .val (.int p0_1), .val (.int p0_2), .val (.int p0_3), .val (.int (4 : Int32)), .val (.ref u_END), .val (.int zt), .val (.int zs), .val (.int zc1), .val (.int zc2), .unset, .unset, .unset, .unset, .unset, .unset, .unset, .unset] [(.int (255 : Int32)), (.int ((p0_1.toUInt32 >>> ((24 : Int32) &&& 31).toUInt32).toInt32))])) _
      refine XS.iand X561.here hx rfl (hb hby at_105) rfl ?_
      exact k
    obtain ⟨zc3, hzc3⟩ : ∃ z, z = (((p0_1.toUInt32 >>> ((24 : Int32) &&& 31).toUInt32).toInt32) &&& (255 : Int32)) := ⟨_, rfl⟩
    rw [← hzc3] at k566
    have hr_zc3 : ¬ (zc3 < (0 : Int32)) ∧ ¬ ((255 : Int32) < zc3) := by rw [hzc3]; exact own_m255 _
    have k567 : ∀ t, Steps p.tables e below (T561.setTop (mkF m 116 #[.val (.int p0_0), .val (.int p0_1), .val (.int p0_2), .val (.int p0_3), .val (.int (4 : Int32)), .val (.ref u_END), .val (.int zt), .val (.int zs), .val (.int zc1), .val (.int zc2), .val (.int zc3), .unset, .unset, .unset, .unset, .unset, .unset, .unset] [(.int (((p0_2.toUInt32 >>> ((8 : Int32) &&& 31).toUInt32).toInt32) &&& (255 : Int32)))])) t → Steps p.tables e below (s₁.setTop (entryFrame m #[(.int p0_0), (.int p0_1), (.int p0_2), (.int p0_3)] maxLocals)) t := by
      intro t k
      refine k566 t ?_
      show Steps p.tables e below (T561.setTop (mkF m 106 #[.val (.int p0_0), .val (.int p0_1), .val (.int p0_2), .val (.int p0_3), .val (.int (4 : Int32)), .val (.ref u_END), .val (.int zt), .val (.int zs), .val (.int zc1), .val (.int zc2), .unset, .unset, .unset, .unset, .unset, .unset, .unset, .unset] [(.int zc3)])) _
      refine XS.istore X561.here hx rfl (hb hby at_106) rfl (l' := #[.val (.int p0_0), .val (.int p0_1), .val (.int p0_2), .val (.int p0_3), .val (.int (4 : Int32)), .val (.ref u_END), .val (.int zt), .val (.int zs), .val (.int zc1), .val (.int zc2), .val (.int zc3), .unset, .unset, .unset, .unset, .unset, .unset, .unset]) rfl ?_
      show Steps p.tables e below (T561.setTop (mkF m 108 #[.val (.int p0_0), .val (.int p0_1), .val (.int p0_2), .val (.int p0_3), .val (.int (4 : Int32)), .val (.ref u_END), .val (.int zt), .val (.int zs), .val (.int zc1), .val (.int zc2), .val (.int zc3), .unset, .unset, .unset, .unset, .unset, .unset, .unset] [])) _
      refine XS.iloadN X561.here hx rfl (hb hby at_108) rfl ?_
      show Steps p.tables e below (T561.setTop (mkF m 109 #[.val (.int p0_0), .val (.int p0_1), .val (.int p0_2), .val (.int p0_3), .val (.int (4 : Int32)), .val (.ref u_END), .val (.int zt), .val (.int zs), .val (.int zc1), .val (.int zc2), .val (.int zc3), .unset, .unset, .unset, .unset, .unset, .unset, .unset] [(.int p0_2)])) _
      refine XS.bipush X561.here hx rfl (hb hby at_109) ?_
      show Steps p.tables e below (T561.setTop (mkF m 111 #[.val (.int p0_0), .val (.int p0_1), .val (.int p0_2), .val (.int p0_3), .val (.int (4 : Int32)), .val (.ref u_END), .val (.int zt), .val (.int zs), .val (.int zc1), .val (.int zc2), .val (.int zc3), .unset, .unset, .unset, .unset, .unset, .unset, .unset] [(.int (8 : Int32)), (.int p0_2)])) _
      refine XS.iushr X561.here hx rfl (hb hby at_111) rfl ?_
      show Steps p.tables e below (T561.setTop (mkF m 112 #[.val (.int p0_0), .val (.int p0_1), .val (.int p0_2), .val (.int p0_3), .val (.int (4 : Int32)), .val (.ref u_END), .val (.int zt), .val (.int zs), .val (.int zc1), .val (.int zc2), .val (.int zc3), .unset, .unset, .unset, .unset, .unset, .unset, .unset] [(.int ((p0_2.toUInt32 >>> ((8 : Int32) &&& 31).toUInt32).toInt32))])) _
      refine XS.sipush X561.here hx rfl (hb hby at_112) ?_
      show Steps p.tables e below (T561.setTop (mkF m 115 #[.val (.int p0_0), .val (.int p0_1), .val (.int p0_2), .val (.int p0_3), .val (.int (4 : Int32)), .val (.ref u_END), .val (.int zt), .val (.int zs), .val (.int zc1), .val (.int zc2), .val (.int zc3), .unset, .unset, .unset, .unset, .unset, .unset, .unset] [(.int (255 : Int32)), (.int ((p0_2.toUInt32 >>> ((8 : Int32) &&& 31).toUInt32).toInt32))])) _
      refine XS.iand X561.here hx rfl (hb hby at_115) rfl ?_
      exact k
    obtain ⟨zd1, hzd1⟩ : ∃ z, z = (((p0_2.toUInt32 >>> ((8 : Int32) &&& 31).toUInt32).toInt32) &&& (255 : Int32)) := ⟨_, rfl⟩
    rw [← hzd1] at k567
    have hr_zd1 : ¬ (zd1 < (0 : Int32)) ∧ ¬ ((255 : Int32) < zd1) := by rw [hzd1]; exact own_m255 _
    have k568 : ∀ t, Steps p.tables e below (T561.setTop (mkF m 126 #[.val (.int p0_0), .val (.int p0_1), .val (.int p0_2), .val (.int p0_3), .val (.int (4 : Int32)), .val (.ref u_END), .val (.int zt), .val (.int zs), .val (.int zc1), .val (.int zc2), .val (.int zc3), .val (.int zd1), .unset, .unset, .unset, .unset, .unset, .unset] [(.int (((p0_2.toUInt32 >>> ((16 : Int32) &&& 31).toUInt32).toInt32) &&& (255 : Int32)))])) t → Steps p.tables e below (s₁.setTop (entryFrame m #[(.int p0_0), (.int p0_1), (.int p0_2), (.int p0_3)] maxLocals)) t := by
      intro t k
      refine k567 t ?_
      show Steps p.tables e below (T561.setTop (mkF m 116 #[.val (.int p0_0), .val (.int p0_1), .val (.int p0_2), .val (.int p0_3), .val (.int (4 : Int32)), .val (.ref u_END), .val (.int zt), .val (.int zs), .val (.int zc1), .val (.int zc2), .val (.int zc3), .unset, .unset, .unset, .unset, .unset, .unset, .unset] [(.int zd1)])) _
      refine XS.istore X561.here hx rfl (hb hby at_116) rfl (l' := #[.val (.int p0_0), .val (.int p0_1), .val (.int p0_2), .val (.int p0_3), .val (.int (4 : Int32)), .val (.ref u_END), .val (.int zt), .val (.int zs), .val (.int zc1), .val (.int zc2), .val (.int zc3), .val (.int zd1), .unset, .unset, .unset, .unset, .unset, .unset]) rfl ?_
      show Steps p.tables e below (T561.setTop (mkF m 118 #[.val (.int p0_0), .val (.int p0_1), .val (.int p0_2), .val (.int p0_3), .val (.int (4 : Int32)), .val (.ref u_END), .val (.int zt), .val (.int zs), .val (.int zc1), .val (.int zc2), .val (.int zc3), .val (.int zd1), .unset, .unset, .unset, .unset, .unset, .unset] [])) _
      refine XS.iloadN X561.here hx rfl (hb hby at_118) rfl ?_
      show Steps p.tables e below (T561.setTop (mkF m 119 #[.val (.int p0_0), .val (.int p0_1), .val (.int p0_2), .val (.int p0_3), .val (.int (4 : Int32)), .val (.ref u_END), .val (.int zt), .val (.int zs), .val (.int zc1), .val (.int zc2), .val (.int zc3), .val (.int zd1), .unset, .unset, .unset, .unset, .unset, .unset] [(.int p0_2)])) _
      refine XS.bipush X561.here hx rfl (hb hby at_119) ?_
      show Steps p.tables e below (T561.setTop (mkF m 121 #[.val (.int p0_0), .val (.int p0_1), .val (.int p0_2), .val (.int p0_3), .val (.int (4 : Int32)), .val (.ref u_END), .val (.int zt), .val (.int zs), .val (.int zc1), .val (.int zc2), .val (.int zc3), .val (.int zd1), .unset, .unset, .unset, .unset, .unset, .unset] [(.int (16 : Int32)), (.int p0_2)])) _
      refine XS.iushr X561.here hx rfl (hb hby at_121) rfl ?_
      show Steps p.tables e below (T561.setTop (mkF m 122 #[.val (.int p0_0), .val (.int p0_1), .val (.int p0_2), .val (.int p0_3), .val (.int (4 : Int32)), .val (.ref u_END), .val (.int zt), .val (.int zs), .val (.int zc1), .val (.int zc2), .val (.int zc3), .val (.int zd1), .unset, .unset, .unset, .unset, .unset, .unset] [(.int ((p0_2.toUInt32 >>> ((16 : Int32) &&& 31).toUInt32).toInt32))])) _
      refine XS.sipush X561.here hx rfl (hb hby at_122) ?_
      show Steps p.tables e below (T561.setTop (mkF m 125 #[.val (.int p0_0), .val (.int p0_1), .val (.int p0_2), .val (.int p0_3), .val (.int (4 : Int32)), .val (.ref u_END), .val (.int zt), .val (.int zs), .val (.int zc1), .val (.int zc2), .val (.int zc3), .val (.int zd1), .unset, .unset, .unset, .unset, .unset, .unset] [(.int (255 : Int32)), (.int ((p0_2.toUInt32 >>> ((16 : Int32) &&& 31).toUInt32).toInt32))])) _
      refine XS.iand X561.here hx rfl (hb hby at_125) rfl ?_
      exact k
    obtain ⟨zd2, hzd2⟩ : ∃ z, z = (((p0_2.toUInt32 >>> ((16 : Int32) &&& 31).toUInt32).toInt32) &&& (255 : Int32)) := ⟨_, rfl⟩
    rw [← hzd2] at k568
    have hr_zd2 : ¬ (zd2 < (0 : Int32)) ∧ ¬ ((255 : Int32) < zd2) := by rw [hzd2]; exact own_m255 _
    have k569 : ∀ t, Steps p.tables e below (T561.setTop (mkF m 136 #[.val (.int p0_0), .val (.int p0_1), .val (.int p0_2), .val (.int p0_3), .val (.int (4 : Int32)), .val (.ref u_END), .val (.int zt), .val (.int zs), .val (.int zc1), .val (.int zc2), .val (.int zc3), .val (.int zd1), .val (.int zd2), .unset, .unset, .unset, .unset, .unset] [(.int (((p0_2.toUInt32 >>> ((24 : Int32) &&& 31).toUInt32).toInt32) &&& (255 : Int32)))])) t → Steps p.tables e below (s₁.setTop (entryFrame m #[(.int p0_0), (.int p0_1), (.int p0_2), (.int p0_3)] maxLocals)) t := by
      intro t k
      refine k568 t ?_
      show Steps p.tables e below (T561.setTop (mkF m 126 #[.val (.int p0_0), .val (.int p0_1), .val (.int p0_2), .val (.int p0_3), .val (.int (4 : Int32)), .val (.ref u_END), .val (.int zt), .val (.int zs), .val (.int zc1), .val (.int zc2), .val (.int zc3), .val (.int zd1), .unset, .unset, .unset, .unset, .unset, .unset] [(.int zd2)])) _
      refine XS.istore X561.here hx rfl (hb hby at_126) rfl (l' := #[.val (.int p0_0), .val (.int p0_1), .val (.int p0_2), .val (.int p0_3), .val (.int (4 : Int32)), .val (.ref u_END), .val (.int zt), .val (.int zs), .val (.int zc1), .val (.int zc2), .val (.int zc3), .val (.int zd1), .val (.int zd2), .unset, .unset, .unset, .unset, .unset]) rfl ?_
      show Steps p.tables e below (T561.setTop (mkF m 128 #[.val (.int p0_0), .val (.int p0_1), .val (.int p0_2), .val (.int p0_3), .val (.int (4 : Int32)), .val (.ref u_END), .val (.int zt), .val (.int zs), .val (.int zc1), .val (.int zc2), .val (.int zc3), .val (.int zd1), .val (.int zd2), .unset, .unset, .unset, .unset, .unset] [])) _
      refine XS.iloadN X561.here hx rfl (hb hby at_128) rfl ?_
      show Steps p.tables e below (T561.setTop (mkF m 129 #[.val (.int p0_0), .val (.int p0_1), .val (.int p0_2), .val (.int p0_3), .val (.int (4 : Int32)), .val (.ref u_END), .val (.int zt), .val (.int zs), .val (.int zc1), .val (.int zc2), .val (.int zc3), .val (.int zd1), .val (.int zd2), .unset, .unset, .unset, .unset, .unset] [(.int p0_2)])) _
      refine XS.bipush X561.here hx rfl (hb hby at_129) ?_
      show Steps p.tables e below (T561.setTop (mkF m 131 #[.val (.int p0_0), .val (.int p0_1), .val (.int p0_2), .val (.int p0_3), .val (.int (4 : Int32)), .val (.ref u_END), .val (.int zt), .val (.int zs), .val (.int zc1), .val (.int zc2), .val (.int zc3), .val (.int zd1), .val (.int zd2), .unset, .unset, .unset, .unset, .unset] [(.int (24 : Int32)), (.int p0_2)])) _
      refine XS.iushr X561.here hx rfl (hb hby at_131) rfl ?_
      show Steps p.tables e below (T561.setTop (mkF m 132 #[.val (.int p0_0), .val (.int p0_1), .val (.int p0_2), .val (.int p0_3), .val (.int (4 : Int32)), .val (.ref u_END), .val (.int zt), .val (.int zs), .val (.int zc1), .val (.int zc2), .val (.int zc3), .val (.int zd1), .val (.int zd2), .unset, .unset, .unset, .unset, .unset] [(.int ((p0_2.toUInt32 >>> ((24 : Int32) &&& 31).toUInt32).toInt32))])) _
      refine XS.sipush X561.here hx rfl (hb hby at_132) ?_
      show Steps p.tables e below (T561.setTop (mkF m 135 #[.val (.int p0_0), .val (.int p0_1), .val (.int p0_2), .val (.int p0_3), .val (.int (4 : Int32)), .val (.ref u_END), .val (.int zt), .val (.int zs), .val (.int zc1), .val (.int zc2), .val (.int zc3), .val (.int zd1), .val (.int zd2), .unset, .unset, .unset, .unset, .unset] [(.int (255 : Int32)), (.int ((p0_2.toUInt32 >>> ((24 : Int32) &&& 31).toUInt32).toInt32))])) _
      refine XS.iand X561.here hx rfl (hb hby at_135) rfl ?_
      exact k
    obtain ⟨zd3, hzd3⟩ : ∃ z, z = (((p0_2.toUInt32 >>> ((24 : Int32) &&& 31).toUInt32).toInt32) &&& (255 : Int32)) := ⟨_, rfl⟩
    rw [← hzd3] at k569
    have hr_zd3 : ¬ (zd3 < (0 : Int32)) ∧ ¬ ((255 : Int32) < zd3) := by rw [hzd3]; exact own_m255 _
    have k570 : ∀ t, Steps p.tables e below (T561.setTop (mkF m 143 #[.val (.int p0_0), .val (.int p0_1), .val (.int p0_2), .val (.int p0_3), .val (.int (4 : Int32)), .val (.ref u_END), .val (.int zt), .val (.int zs), .val (.int zc1), .val (.int zc2), .val (.int zc3), .val (.int zd1), .val (.int zd2), .val (.int zd3), .unset, .unset, .unset, .unset] [(.int zc1.toUInt32.toUInt16.toUInt32.toInt32), (.int zt)])) t → Steps p.tables e below (s₁.setTop (entryFrame m #[(.int p0_0), (.int p0_1), (.int p0_2), (.int p0_3)] maxLocals)) t := by
      intro t k
      refine k569 t ?_
      show Steps p.tables e below (T561.setTop (mkF m 136 #[.val (.int p0_0), .val (.int p0_1), .val (.int p0_2), .val (.int p0_3), .val (.int (4 : Int32)), .val (.ref u_END), .val (.int zt), .val (.int zs), .val (.int zc1), .val (.int zc2), .val (.int zc3), .val (.int zd1), .val (.int zd2), .unset, .unset, .unset, .unset, .unset] [(.int zd3)])) _
      refine XS.istore X561.here hx rfl (hb hby at_136) rfl (l' := #[.val (.int p0_0), .val (.int p0_1), .val (.int p0_2), .val (.int p0_3), .val (.int (4 : Int32)), .val (.ref u_END), .val (.int zt), .val (.int zs), .val (.int zc1), .val (.int zc2), .val (.int zc3), .val (.int zd1), .val (.int zd2), .val (.int zd3), .unset, .unset, .unset, .unset]) rfl ?_
      show Steps p.tables e below (T561.setTop (mkF m 138 #[.val (.int p0_0), .val (.int p0_1), .val (.int p0_2), .val (.int p0_3), .val (.int (4 : Int32)), .val (.ref u_END), .val (.int zt), .val (.int zs), .val (.int zc1), .val (.int zc2), .val (.int zc3), .val (.int zd1), .val (.int zd2), .val (.int zd3), .unset, .unset, .unset, .unset] [])) _
      refine XS.iload X561.here hx rfl (hb hby at_138) rfl ?_
      show Steps p.tables e below (T561.setTop (mkF m 140 #[.val (.int p0_0), .val (.int p0_1), .val (.int p0_2), .val (.int p0_3), .val (.int (4 : Int32)), .val (.ref u_END), .val (.int zt), .val (.int zs), .val (.int zc1), .val (.int zc2), .val (.int zc3), .val (.int zd1), .val (.int zd2), .val (.int zd3), .unset, .unset, .unset, .unset] [(.int zt)])) _
      refine XS.iload X561.here hx rfl (hb hby at_140) rfl ?_
      show Steps p.tables e below (T561.setTop (mkF m 142 #[.val (.int p0_0), .val (.int p0_1), .val (.int p0_2), .val (.int p0_3), .val (.int (4 : Int32)), .val (.ref u_END), .val (.int zt), .val (.int zs), .val (.int zc1), .val (.int zc2), .val (.int zc3), .val (.int zd1), .val (.int zd2), .val (.int zd3), .unset, .unset, .unset, .unset] [(.int zc1), (.int zt)])) _
      refine XS.i2c X561.here hx rfl (hb hby at_142) rfl ?_
      exact k
    rw [show zc1.toUInt32.toUInt16.toUInt32.toInt32 = zc1 from own_i2c _ hr_zc1] at k570
    have k571 : ∀ t, Steps p.tables e below (T561.setTop (mkF m 146 #[.val (.int p0_0), .val (.int p0_1), .val (.int p0_2), .val (.int p0_3), .val (.int (4 : Int32)), .val (.ref u_END), .val (.int zt), .val (.int zs), .val (.int zc1), .val (.int zc2), .val (.int zc3), .val (.int zd1), .val (.int zd2), .val (.int zd3), .unset, .unset, .unset, .unset] [(.int zc2.toUInt32.toUInt16.toUInt32.toInt32), (.int zc1), (.int zt)])) t → Steps p.tables e below (s₁.setTop (entryFrame m #[(.int p0_0), (.int p0_1), (.int p0_2), (.int p0_3)] maxLocals)) t := by
      intro t k
      refine k570 t ?_
      show Steps p.tables e below (T561.setTop (mkF m 143 #[.val (.int p0_0), .val (.int p0_1), .val (.int p0_2), .val (.int p0_3), .val (.int (4 : Int32)), .val (.ref u_END), .val (.int zt), .val (.int zs), .val (.int zc1), .val (.int zc2), .val (.int zc3), .val (.int zd1), .val (.int zd2), .val (.int zd3), .unset, .unset, .unset, .unset] [(.int zc1), (.int zt)])) _
      refine XS.iload X561.here hx rfl (hb hby at_143) rfl ?_
      show Steps p.tables e below (T561.setTop (mkF m 145 #[.val (.int p0_0), .val (.int p0_1), .val (.int p0_2), .val (.int p0_3), .val (.int (4 : Int32)), .val (.ref u_END), .val (.int zt), .val (.int zs), .val (.int zc1), .val (.int zc2), .val (.int zc3), .val (.int zd1), .val (.int zd2), .val (.int zd3), .unset, .unset, .unset, .unset] [(.int zc2), (.int zc1), (.int zt)])) _
      refine XS.i2c X561.here hx rfl (hb hby at_145) rfl ?_
      exact k
    rw [show zc2.toUInt32.toUInt16.toUInt32.toInt32 = zc2 from own_i2c _ hr_zc2] at k571
    have k572 : ∀ t, Steps p.tables e below (T561.setTop (mkF m 149 #[.val (.int p0_0), .val (.int p0_1), .val (.int p0_2), .val (.int p0_3), .val (.int (4 : Int32)), .val (.ref u_END), .val (.int zt), .val (.int zs), .val (.int zc1), .val (.int zc2), .val (.int zc3), .val (.int zd1), .val (.int zd2), .val (.int zd3), .unset, .unset, .unset, .unset] [(.int zc3.toUInt32.toUInt16.toUInt32.toInt32), (.int zc2), (.int zc1), (.int zt)])) t → Steps p.tables e below (s₁.setTop (entryFrame m #[(.int p0_0), (.int p0_1), (.int p0_2), (.int p0_3)] maxLocals)) t := by
      intro t k
      refine k571 t ?_
      show Steps p.tables e below (T561.setTop (mkF m 146 #[.val (.int p0_0), .val (.int p0_1), .val (.int p0_2), .val (.int p0_3), .val (.int (4 : Int32)), .val (.ref u_END), .val (.int zt), .val (.int zs), .val (.int zc1), .val (.int zc2), .val (.int zc3), .val (.int zd1), .val (.int zd2), .val (.int zd3), .unset, .unset, .unset, .unset] [(.int zc2), (.int zc1), (.int zt)])) _
      refine XS.iload X561.here hx rfl (hb hby at_146) rfl ?_
      show Steps p.tables e below (T561.setTop (mkF m 148 #[.val (.int p0_0), .val (.int p0_1), .val (.int p0_2), .val (.int p0_3), .val (.int (4 : Int32)), .val (.ref u_END), .val (.int zt), .val (.int zs), .val (.int zc1), .val (.int zc2), .val (.int zc3), .val (.int zd1), .val (.int zd2), .val (.int zd3), .unset, .unset, .unset, .unset] [(.int zc3), (.int zc2), (.int zc1), (.int zt)])) _
      refine XS.i2c X561.here hx rfl (hb hby at_148) rfl ?_
      exact k
    rw [show zc3.toUInt32.toUInt16.toUInt32.toInt32 = zc3 from own_i2c _ hr_zc3] at k572
    obtain ⟨_, _, ⟨T573, L573, k573, n573⟩, -, X573, hS2, hg2, ⟨Lc573, hQ573, l573, y573, z573, hC573⟩, st573⟩ := callSS X561 hx (y := (⟨"com/example/oyster/oyster/engine/TokenIsSymbolPinLaw", "make", "(ICCC)Ljava/lang/String;"⟩ : MethodName)) hown (mvT hZ (hw _ (List.mem_of_getElem? (i := 4) rfl))) (mvT hZ (hw _ (List.mem_of_getElem? (i := 5) rfl))) (mvT hZ (hw _ (List.mem_of_getElem? (i := 6) rfl))) (mvT hZ (hw _ (List.mem_of_getElem? (i := 7) rfl))) (by decide) (backOfSH (W := 0) (rm3 l Z a0 hw [] hEL wS zt zc1 zc2 zc3 cs h0 n0 Z0 Sc hcs hr_zc1.1 hr_zc1.2 hr_zc2.1 hr_zc2.2 hr_zc3.1 hr_zc3.2) hZ (hw _ (List.mem_of_getElem? (i := 7) rfl)) (hw _ (List.mem_of_getElem? (i := 6) rfl)) (by decide) (by decide) hEL hCR.1) (g := (mkF m 149 #[.val (.int p0_0), .val (.int p0_1), .val (.int p0_2), .val (.int p0_3), .val (.int (4 : Int32)), .val (.ref u_END), .val (.int zt), .val (.int zs), .val (.int zc1), .val (.int zc2), .val (.int zc3), .val (.int zd1), .val (.int zd2), .val (.int zd3), .unset, .unset, .unset, .unset] [(.int zc3), (.int zc2), (.int zc1), (.int zt)])) rfl (by rw [hml]; rfl) (argsL := [(.int zt), (.int zc1), (.int zc2), (.int zc3)]) (rest := []) (lenOf pd_4 rfl) rfl (by show 2 * 0 + _ ≤ _; exact Nat.le_of_eq rfl) (hb hby at_149) (fun _ _ => ⟨rfl, e561, (by decide : 0 + 6 ≤ _), (by decide : 0 + 12 ≤ _)⟩)
    dsimp only [Pt.U, Pt.locs, Pt.cells, Pt.slots] at X573 hS2 hg2 hC573 l573 y573 z573 st573 hQ573
    subst l573 y573 z573
    obtain ⟨X573, hS, hZ, hown⟩ := rebS hS (by rw [e561]; exact hk) X573 hS2 hg2 hZ hown
    have hk := Nat.le_refl T573.heap.size
    have hCR := hCR.trans hC573
    obtain ⟨x3_573, d3_573, kv3_573, rfl, N573q, Kc573, ggx3_573, szx3_573, G573_0, G573_1, G573_2, G573_3⟩ := hQ573
    have ne574 : u_NUMBER ≠ x3_573 := Nat.ne_of_lt (Nat.lt_of_lt_of_le E_u_NUMBER.lt szx3_573)
    have ne575 : u_SYMBOL ≠ x3_573 := Nat.ne_of_lt (Nat.lt_of_lt_of_le E_u_SYMBOL.lt szx3_573)
    have ne576 : u_NAME ≠ x3_573 := Nat.ne_of_lt (Nat.lt_of_lt_of_le E_u_NAME.lt szx3_573)
    have ne577 : u_END ≠ x3_573 := Nat.ne_of_lt (Nat.lt_of_lt_of_le E_u_END.lt szx3_573)
    have ne578 : u_STRING ≠ x3_573 := Nat.ne_of_lt (Nat.lt_of_lt_of_le E_u_STRING.lt szx3_573)
    have Zs573 : n0 ≤ T573.heap.size := Nat.le_trans Z0 Kc573.1
    have F579 : Sta Z T573.heap "com/example/oyster/oyster/engine/Tokens$Kind" "NUMBER" "Lcom/example/oyster/oyster/engine/Tokens$Kind;" (.ref u_NUMBER) := own_stakeep S_NUMBER Kc573 all0
    have F580 : Exa Z T573.heap u_NUMBER "com/example/oyster/oyster/engine/Tokens$Kind" := E_u_NUMBER.keep Kc573
    have F581 : Sta Z T573.heap "com/example/oyster/oyster/engine/Tokens$Kind" "SYMBOL" "Lcom/example/oyster/oyster/engine/Tokens$Kind;" (.ref u_SYMBOL) := own_stakeep S_SYMBOL Kc573 all0
    have F582 : Exa Z T573.heap u_SYMBOL "com/example/oyster/oyster/engine/Tokens$Kind" := E_u_SYMBOL.keep Kc573
    have F583 : Fld Z T573.heap u_NUMBER "java/lang/Enum" "ordinal" "I" (.int (0 : Int32)) := F_u_NUMBER_ordinal.keep Kc573 nin0
    have F584 : Fld Z T573.heap u_SYMBOL "java/lang/Enum" "ordinal" "I" (.int (3 : Int32)) := F_u_SYMBOL_ordinal.keep Kc573 nin0
    have F585 : Sta Z T573.heap "com/example/oyster/oyster/engine/Tokens$Kind" "NAME" "Lcom/example/oyster/oyster/engine/Tokens$Kind;" (.ref u_NAME) := own_stakeep S_NAME Kc573 all0
    have F586 : Exa Z T573.heap u_NAME "com/example/oyster/oyster/engine/Tokens$Kind" := E_u_NAME.keep Kc573
    have F587 : Fld Z T573.heap u_NAME "java/lang/Enum" "ordinal" "I" (.int (2 : Int32)) := F_u_NAME_ordinal.keep Kc573 nin0
    have F588 : Sta Z T573.heap "com/example/oyster/oyster/engine/Tokens$Kind" "END" "Lcom/example/oyster/oyster/engine/Tokens$Kind;" (.ref u_END) := own_stakeep S_END Kc573 all0
    have F589 : Exa Z T573.heap u_END "com/example/oyster/oyster/engine/Tokens$Kind" := E_u_END.keep Kc573
    have F590 : Fld Z T573.heap u_END "java/lang/Enum" "ordinal" "I" (.int (4 : Int32)) := F_u_END_ordinal.keep Kc573 nin0
    have F591 : Sta Z T573.heap "com/example/oyster/oyster/engine/Tokens$Kind" "STRING" "Lcom/example/oyster/oyster/engine/Tokens$Kind;" (.ref u_STRING) := own_stakeep S_STRING Kc573 all0
    have F592 : Exa Z T573.heap u_STRING "com/example/oyster/oyster/engine/Tokens$Kind" := E_u_STRING.keep Kc573
    have F593 : Fld Z T573.heap u_STRING "java/lang/Enum" "ordinal" "I" (.int (1 : Int32)) := F_u_STRING_ordinal.keep Kc573 nin0
    have F594 : Sta Z T573.heap "java/lang/String" "COMPACT_STRINGS" "Z" (.int cs) := own_stakeep Sc Kc573 all0
    have N573 := Fr.app N0 N573q
    have k595 : ∀ t, Steps p.tables e below (T573.setTop (mkF m 161 #[.val (.int p0_0), .val (.int p0_1), .val (.int p0_2), .val (.int p0_3), .val (.int (4 : Int32)), .val (.ref u_END), .val (.int zt), .val (.int zs), .val (.int zc1), .val (.int zc2), .val (.int zc3), .val (.int zd1), .val (.int zd2), .val (.int zd3), .val (.ref x3_573), .unset, .unset, .unset] [(.int (zc1 ^^^ zd1)), (.int zs)])) t → Steps p.tables e below (s₁.setTop (entryFrame m #[(.int p0_0), (.int p0_1), (.int p0_2), (.int p0_3)] maxLocals)) t := by
      intro t k
      refine k572 t ?_
      show Steps p.tables e below (T561.setTop (mkF m 149 #[.val (.int p0_0), .val (.int p0_1), .val (.int p0_2), .val (.int p0_3), .val (.int (4 : Int32)), .val (.ref u_END), .val (.int zt), .val (.int zs), .val (.int zc1), .val (.int zc2), .val (.int zc3), .val (.int zd1), .val (.int zd2), .val (.int zd3), .unset, .unset, .unset, .unset] [(.int zc3), (.int zc2), (.int zc1), (.int zt)])) _
      refine st573.trans ?_
      show Steps p.tables e below (T573.setTop (mkF m 152 #[.val (.int p0_0), .val (.int p0_1), .val (.int p0_2), .val (.int p0_3), .val (.int (4 : Int32)), .val (.ref u_END), .val (.int zt), .val (.int zs), .val (.int zc1), .val (.int zc2), .val (.int zc3), .val (.int zd1), .val (.int zd2), .val (.int zd3), .unset, .unset, .unset, .unset] [(.ref x3_573)])) _
      refine XS.astore X573.here hx rfl (hb hby at_152) rfl rfl (l' := #[.val (.int p0_0), .val (.int p0_1), .val (.int p0_2), .val (.int p0_3), .val (.int (4 : Int32)), .val (.ref u_END), .val (.int zt), .val (.int zs), .val (.int zc1), .val (.int zc2), .val (.int zc3), .val (.int zd1), .val (.int zd2), .val (.int zd3), .val (.ref x3_573), .unset, .unset, .unset]) rfl ?_
      show Steps p.tables e below (T573.setTop (mkF m 154 #[.val (.int p0_0), .val (.int p0_1), .val (.int p0_2), .val (.int p0_3), .val (.int (4 : Int32)), .val (.ref u_END), .val (.int zt), .val (.int zs), .val (.int zc1), .val (.int zc2), .val (.int zc3), .val (.int zd1), .val (.int zd2), .val (.int zd3), .val (.ref x3_573), .unset, .unset, .unset] [])) _
      refine XS.iload X573.here hx rfl (hb hby at_154) rfl ?_
      show Steps p.tables e below (T573.setTop (mkF m 156 #[.val (.int p0_0), .val (.int p0_1), .val (.int p0_2), .val (.int p0_3), .val (.int (4 : Int32)), .val (.ref u_END), .val (.int zt), .val (.int zs), .val (.int zc1), .val (.int zc2), .val (.int zc3), .val (.int zd1), .val (.int zd2), .val (.int zd3), .val (.ref x3_573), .unset, .unset, .unset] [(.int zs)])) _
      refine XS.iload X573.here hx rfl (hb hby at_156) rfl ?_
      show Steps p.tables e below (T573.setTop (mkF m 158 #[.val (.int p0_0), .val (.int p0_1), .val (.int p0_2), .val (.int p0_3), .val (.int (4 : Int32)), .val (.ref u_END), .val (.int zt), .val (.int zs), .val (.int zc1), .val (.int zc2), .val (.int zc3), .val (.int zd1), .val (.int zd2), .val (.int zd3), .val (.ref x3_573), .unset, .unset, .unset] [(.int zc1), (.int zs)])) _
      refine XS.iload X573.here hx rfl (hb hby at_158) rfl ?_
      show Steps p.tables e below (T573.setTop (mkF m 160 #[.val (.int p0_0), .val (.int p0_1), .val (.int p0_2), .val (.int p0_3), .val (.int (4 : Int32)), .val (.ref u_END), .val (.int zt), .val (.int zs), .val (.int zc1), .val (.int zc2), .val (.int zc3), .val (.int zd1), .val (.int zd2), .val (.int zd3), .val (.ref x3_573), .unset, .unset, .unset] [(.int zd1), (.int zc1), (.int zs)])) _
      refine XS.ixor X573.here hx rfl (hb hby at_160) rfl ?_
      exact k
    obtain ⟨zx1, hzx1⟩ : ∃ z, z = (zc1 ^^^ zd1) := ⟨_, rfl⟩
    rw [← hzx1] at k595
    have hr_zx1 : ¬ (zx1 < (0 : Int32)) ∧ ¬ ((255 : Int32) < zx1) := by rw [hzx1]; exact own_xorr _ _ hr_zc1 hr_zd1
    have k596 : ∀ t, Steps p.tables e below (T573.setTop (mkF m 162 #[.val (.int p0_0), .val (.int p0_1), .val (.int p0_2), .val (.int p0_3), .val (.int (4 : Int32)), .val (.ref u_END), .val (.int zt), .val (.int zs), .val (.int zc1), .val (.int zc2), .val (.int zc3), .val (.int zd1), .val (.int zd2), .val (.int zd3), .val (.ref x3_573), .unset, .unset, .unset] [(.int zx1.toUInt32.toUInt16.toUInt32.toInt32), (.int zs)])) t → Steps p.tables e below (s₁.setTop (entryFrame m #[(.int p0_0), (.int p0_1), (.int p0_2), (.int p0_3)] maxLocals)) t := by
      intro t k
      refine k595 t ?_
      show Steps p.tables e below (T573.setTop (mkF m 161 #[.val (.int p0_0), .val (.int p0_1), .val (.int p0_2), .val (.int p0_3), .val (.int (4 : Int32)), .val (.ref u_END), .val (.int zt), .val (.int zs), .val (.int zc1), .val (.int zc2), .val (.int zc3), .val (.int zd1), .val (.int zd2), .val (.int zd3), .val (.ref x3_573), .unset, .unset, .unset] [(.int zx1), (.int zs)])) _
      refine XS.i2c X573.here hx rfl (hb hby at_161) rfl ?_
      exact k
    rw [show zx1.toUInt32.toUInt16.toUInt32.toInt32 = zx1 from own_i2c _ hr_zx1] at k596
    have k597 : ∀ t, Steps p.tables e below (T573.setTop (mkF m 167 #[.val (.int p0_0), .val (.int p0_1), .val (.int p0_2), .val (.int p0_3), .val (.int (4 : Int32)), .val (.ref u_END), .val (.int zt), .val (.int zs), .val (.int zc1), .val (.int zc2), .val (.int zc3), .val (.int zd1), .val (.int zd2), .val (.int zd3), .val (.ref x3_573), .unset, .unset, .unset] [(.int (zc2 ^^^ zd2)), (.int zx1), (.int zs)])) t → Steps p.tables e below (s₁.setTop (entryFrame m #[(.int p0_0), (.int p0_1), (.int p0_2), (.int p0_3)] maxLocals)) t := by
      intro t k
      refine k596 t ?_
      show Steps p.tables e below (T573.setTop (mkF m 162 #[.val (.int p0_0), .val (.int p0_1), .val (.int p0_2), .val (.int p0_3), .val (.int (4 : Int32)), .val (.ref u_END), .val (.int zt), .val (.int zs), .val (.int zc1), .val (.int zc2), .val (.int zc3), .val (.int zd1), .val (.int zd2), .val (.int zd3), .val (.ref x3_573), .unset, .unset, .unset] [(.int zx1), (.int zs)])) _
      refine XS.iload X573.here hx rfl (hb hby at_162) rfl ?_
      show Steps p.tables e below (T573.setTop (mkF m 164 #[.val (.int p0_0), .val (.int p0_1), .val (.int p0_2), .val (.int p0_3), .val (.int (4 : Int32)), .val (.ref u_END), .val (.int zt), .val (.int zs), .val (.int zc1), .val (.int zc2), .val (.int zc3), .val (.int zd1), .val (.int zd2), .val (.int zd3), .val (.ref x3_573), .unset, .unset, .unset] [(.int zc2), (.int zx1), (.int zs)])) _
      refine XS.iload X573.here hx rfl (hb hby at_164) rfl ?_
      show Steps p.tables e below (T573.setTop (mkF m 166 #[.val (.int p0_0), .val (.int p0_1), .val (.int p0_2), .val (.int p0_3), .val (.int (4 : Int32)), .val (.ref u_END), .val (.int zt), .val (.int zs), .val (.int zc1), .val (.int zc2), .val (.int zc3), .val (.int zd1), .val (.int zd2), .val (.int zd3), .val (.ref x3_573), .unset, .unset, .unset] [(.int zd2), (.int zc2), (.int zx1), (.int zs)])) _
      refine XS.ixor X573.here hx rfl (hb hby at_166) rfl ?_
      exact k
    obtain ⟨zx2, hzx2⟩ : ∃ z, z = (zc2 ^^^ zd2) := ⟨_, rfl⟩
    rw [← hzx2] at k597
    have hr_zx2 : ¬ (zx2 < (0 : Int32)) ∧ ¬ ((255 : Int32) < zx2) := by rw [hzx2]; exact own_xorr _ _ hr_zc2 hr_zd2
    have k598 : ∀ t, Steps p.tables e below (T573.setTop (mkF m 168 #[.val (.int p0_0), .val (.int p0_1), .val (.int p0_2), .val (.int p0_3), .val (.int (4 : Int32)), .val (.ref u_END), .val (.int zt), .val (.int zs), .val (.int zc1), .val (.int zc2), .val (.int zc3), .val (.int zd1), .val (.int zd2), .val (.int zd3), .val (.ref x3_573), .unset, .unset, .unset] [(.int zx2.toUInt32.toUInt16.toUInt32.toInt32), (.int zx1), (.int zs)])) t → Steps p.tables e below (s₁.setTop (entryFrame m #[(.int p0_0), (.int p0_1), (.int p0_2), (.int p0_3)] maxLocals)) t := by
      intro t k
      refine k597 t ?_
      show Steps p.tables e below (T573.setTop (mkF m 167 #[.val (.int p0_0), .val (.int p0_1), .val (.int p0_2), .val (.int p0_3), .val (.int (4 : Int32)), .val (.ref u_END), .val (.int zt), .val (.int zs), .val (.int zc1), .val (.int zc2), .val (.int zc3), .val (.int zd1), .val (.int zd2), .val (.int zd3), .val (.ref x3_573), .unset, .unset, .unset] [(.int zx2), (.int zx1), (.int zs)])) _
      refine XS.i2c X573.here hx rfl (hb hby at_167) rfl ?_
      exact k
    rw [show zx2.toUInt32.toUInt16.toUInt32.toInt32 = zx2 from own_i2c _ hr_zx2] at k598
    have k599 : ∀ t, Steps p.tables e below (T573.setTop (mkF m 173 #[.val (.int p0_0), .val (.int p0_1), .val (.int p0_2), .val (.int p0_3), .val (.int (4 : Int32)), .val (.ref u_END), .val (.int zt), .val (.int zs), .val (.int zc1), .val (.int zc2), .val (.int zc3), .val (.int zd1), .val (.int zd2), .val (.int zd3), .val (.ref x3_573), .unset, .unset, .unset] [(.int (zc3 ^^^ zd3)), (.int zx2), (.int zx1), (.int zs)])) t → Steps p.tables e below (s₁.setTop (entryFrame m #[(.int p0_0), (.int p0_1), (.int p0_2), (.int p0_3)] maxLocals)) t := by
      intro t k
      refine k598 t ?_
      show Steps p.tables e below (T573.setTop (mkF m 168 #[.val (.int p0_0), .val (.int p0_1), .val (.int p0_2), .val (.int p0_3), .val (.int (4 : Int32)), .val (.ref u_END), .val (.int zt), .val (.int zs), .val (.int zc1), .val (.int zc2), .val (.int zc3), .val (.int zd1), .val (.int zd2), .val (.int zd3), .val (.ref x3_573), .unset, .unset, .unset] [(.int zx2), (.int zx1), (.int zs)])) _
      refine XS.iload X573.here hx rfl (hb hby at_168) rfl ?_
      show Steps p.tables e below (T573.setTop (mkF m 170 #[.val (.int p0_0), .val (.int p0_1), .val (.int p0_2), .val (.int p0_3), .val (.int (4 : Int32)), .val (.ref u_END), .val (.int zt), .val (.int zs), .val (.int zc1), .val (.int zc2), .val (.int zc3), .val (.int zd1), .val (.int zd2), .val (.int zd3), .val (.ref x3_573), .unset, .unset, .unset] [(.int zc3), (.int zx2), (.int zx1), (.int zs)])) _
      refine XS.iload X573.here hx rfl (hb hby at_170) rfl ?_
      show Steps p.tables e below (T573.setTop (mkF m 172 #[.val (.int p0_0), .val (.int p0_1), .val (.int p0_2), .val (.int p0_3), .val (.int (4 : Int32)), .val (.ref u_END), .val (.int zt), .val (.int zs), .val (.int zc1), .val (.int zc2), .val (.int zc3), .val (.int zd1), .val (.int zd2), .val (.int zd3), .val (.ref x3_573), .unset, .unset, .unset] [(.int zd3), (.int zc3), (.int zx2), (.int zx1), (.int zs)])) _
      refine XS.ixor X573.here hx rfl (hb hby at_172) rfl ?_
      exact k
    obtain ⟨zx3, hzx3⟩ : ∃ z, z = (zc3 ^^^ zd3) := ⟨_, rfl⟩
    rw [← hzx3] at k599
    have hr_zx3 : ¬ (zx3 < (0 : Int32)) ∧ ¬ ((255 : Int32) < zx3) := by rw [hzx3]; exact own_xorr _ _ hr_zc3 hr_zd3
    have k600 : ∀ t, Steps p.tables e below (T573.setTop (mkF m 174 #[.val (.int p0_0), .val (.int p0_1), .val (.int p0_2), .val (.int p0_3), .val (.int (4 : Int32)), .val (.ref u_END), .val (.int zt), .val (.int zs), .val (.int zc1), .val (.int zc2), .val (.int zc3), .val (.int zd1), .val (.int zd2), .val (.int zd3), .val (.ref x3_573), .unset, .unset, .unset] [(.int zx3.toUInt32.toUInt16.toUInt32.toInt32), (.int zx2), (.int zx1), (.int zs)])) t → Steps p.tables e below (s₁.setTop (entryFrame m #[(.int p0_0), (.int p0_1), (.int p0_2), (.int p0_3)] maxLocals)) t := by
      intro t k
      refine k599 t ?_
      show Steps p.tables e below (T573.setTop (mkF m 173 #[.val (.int p0_0), .val (.int p0_1), .val (.int p0_2), .val (.int p0_3), .val (.int (4 : Int32)), .val (.ref u_END), .val (.int zt), .val (.int zs), .val (.int zc1), .val (.int zc2), .val (.int zc3), .val (.int zd1), .val (.int zd2), .val (.int zd3), .val (.ref x3_573), .unset, .unset, .unset] [(.int zx3), (.int zx2), (.int zx1), (.int zs)])) _
      refine XS.i2c X573.here hx rfl (hb hby at_173) rfl ?_
      exact k
    rw [show zx3.toUInt32.toUInt16.toUInt32.toInt32 = zx3 from own_i2c _ hr_zx3] at k600
    obtain ⟨_, _, ⟨T601, L601, k601, n601⟩, -, X601, hS2, hg2, ⟨Lc601, hQ601, l601, y601, z601, hC601⟩, st601⟩ := callSS X573 hx (y := (⟨"com/example/oyster/oyster/engine/TokenIsSymbolPinLaw", "make", "(ICCC)Ljava/lang/String;"⟩ : MethodName)) hown (mvT hZ (hw _ (List.mem_of_getElem? (i := 4) rfl))) (mvT hZ (hw _ (List.mem_of_getElem? (i := 5) rfl))) (mvT hZ (hw _ (List.mem_of_getElem? (i := 6) rfl))) (mvT hZ (hw _ (List.mem_of_getElem? (i := 7) rfl))) (by decide) (backOfSH (W := 0) (rm3 l Z a0 hw [] hEL wS zs zx1 zx2 zx3 cs T573.heap n0 Zs573 F594 hcs hr_zx1.1 hr_zx1.2 hr_zx2.1 hr_zx2.2 hr_zx3.1 hr_zx3.2) hZ (hw _ (List.mem_of_getElem? (i := 7) rfl)) (hw _ (List.mem_of_getElem? (i := 6) rfl)) (by decide) (by decide) hEL hCR.1) (g := (mkF m 174 #[.val (.int p0_0), .val (.int p0_1), .val (.int p0_2), .val (.int p0_3), .val (.int (4 : Int32)), .val (.ref u_END), .val (.int zt), .val (.int zs), .val (.int zc1), .val (.int zc2), .val (.int zc3), .val (.int zd1), .val (.int zd2), .val (.int zd3), .val (.ref x3_573), .unset, .unset, .unset] [(.int zx3), (.int zx2), (.int zx1), (.int zs)])) rfl (by rw [hml]; rfl) (argsL := [(.int zs), (.int zx1), (.int zx2), (.int zx3)]) (rest := []) (lenOf pd_4 rfl) rfl (by show 2 * 0 + _ ≤ _; exact Nat.le_of_eq rfl) (hb hby at_174) (fun _ _ => ⟨rfl, rfl, (by decide : 6 + 6 ≤ _), (by decide : 12 + 12 ≤ _)⟩)
    dsimp only [Pt.U, Pt.locs, Pt.cells, Pt.slots] at X601 hS2 hg2 hC601 l601 y601 z601 st601 hQ601
    subst l601 y601 z601
    obtain ⟨X601, hS, hZ, hown⟩ := rebS hS hk X601 hS2 hg2 hZ hown
    have hk := Nat.le_refl T601.heap.size
    have hCR := hCR.trans hC601
    obtain ⟨x3_601, d3_601, kv3_601, rfl, N601q, Kc601, ggx3_601, szx3_601, G601_0, G601_1, G601_2, G601_3⟩ := hQ601
    have ne602 : u_NUMBER ≠ x3_601 := Nat.ne_of_lt (Nat.lt_of_lt_of_le F580.lt szx3_601)
    have ne603 : u_SYMBOL ≠ x3_601 := Nat.ne_of_lt (Nat.lt_of_lt_of_le F582.lt szx3_601)
    have ne604 : u_NAME ≠ x3_601 := Nat.ne_of_lt (Nat.lt_of_lt_of_le F586.lt szx3_601)
    have ne605 : u_END ≠ x3_601 := Nat.ne_of_lt (Nat.lt_of_lt_of_le F589.lt szx3_601)
    have ne606 : u_STRING ≠ x3_601 := Nat.ne_of_lt (Nat.lt_of_lt_of_le F592.lt szx3_601)
    have ne607 : x3_573 ≠ x3_601 := Nat.ne_of_lt (Nat.lt_of_lt_of_le G573_0.lt szx3_601)
    have ne608 : d3_573 ≠ x3_601 := Nat.ne_of_lt (Nat.lt_of_lt_of_le G573_3.lt szx3_601)
    have Zs601 : n0 ≤ T601.heap.size := Nat.le_trans Zs573 Kc601.1
    have F609 : Sta Z T601.heap "com/example/oyster/oyster/engine/Tokens$Kind" "NUMBER" "Lcom/example/oyster/oyster/engine/Tokens$Kind;" (.ref u_NUMBER) := own_stakeep F579 Kc601 all0
    have F610 : Exa Z T601.heap u_NUMBER "com/example/oyster/oyster/engine/Tokens$Kind" := F580.keep Kc601
    have F611 : Sta Z T601.heap "com/example/oyster/oyster/engine/Tokens$Kind" "SYMBOL" "Lcom/example/oyster/oyster/engine/Tokens$Kind;" (.ref u_SYMBOL) := own_stakeep F581 Kc601 all0
    have F612 : Exa Z T601.heap u_SYMBOL "com/example/oyster/oyster/engine/Tokens$Kind" := F582.keep Kc601
    have F613 : Fld Z T601.heap u_NUMBER "java/lang/Enum" "ordinal" "I" (.int (0 : Int32)) := F583.keep Kc601 nin0
    have F614 : Fld Z T601.heap u_SYMBOL "java/lang/Enum" "ordinal" "I" (.int (3 : Int32)) := F584.keep Kc601 nin0
    have F615 : Sta Z T601.heap "com/example/oyster/oyster/engine/Tokens$Kind" "NAME" "Lcom/example/oyster/oyster/engine/Tokens$Kind;" (.ref u_NAME) := own_stakeep F585 Kc601 all0
    have F616 : Exa Z T601.heap u_NAME "com/example/oyster/oyster/engine/Tokens$Kind" := F586.keep Kc601
    have F617 : Fld Z T601.heap u_NAME "java/lang/Enum" "ordinal" "I" (.int (2 : Int32)) := F587.keep Kc601 nin0
    have F618 : Sta Z T601.heap "com/example/oyster/oyster/engine/Tokens$Kind" "END" "Lcom/example/oyster/oyster/engine/Tokens$Kind;" (.ref u_END) := own_stakeep F588 Kc601 all0
    have F619 : Exa Z T601.heap u_END "com/example/oyster/oyster/engine/Tokens$Kind" := F589.keep Kc601
    have F620 : Fld Z T601.heap u_END "java/lang/Enum" "ordinal" "I" (.int (4 : Int32)) := F590.keep Kc601 nin0
    have F621 : Sta Z T601.heap "com/example/oyster/oyster/engine/Tokens$Kind" "STRING" "Lcom/example/oyster/oyster/engine/Tokens$Kind;" (.ref u_STRING) := own_stakeep F591 Kc601 all0
    have F622 : Exa Z T601.heap u_STRING "com/example/oyster/oyster/engine/Tokens$Kind" := F592.keep Kc601
    have F623 : Fld Z T601.heap u_STRING "java/lang/Enum" "ordinal" "I" (.int (1 : Int32)) := F593.keep Kc601 nin0
    have F624 : Sta Z T601.heap "java/lang/String" "COMPACT_STRINGS" "Z" (.int cs) := own_stakeep F594 Kc601 all0
    have F625 : Exa Z T601.heap x3_573 "java/lang/String" := G573_0.keep Kc601
    have F626 : Fld Z T601.heap x3_573 "java/lang/String" "value" "[B" (.ref d3_573) := G573_1.keep Kc601 nin0
    have F627 : Fld Z T601.heap x3_573 "java/lang/String" "coder" "B" (.int (0 : Int32)) := G573_2.keep Kc601 nin0
    have F628 : Arv Z T601.heap d3_573 kv3_573 .byte (Int32.ofNat (own_mk zt zc1 zc2 zc3).length) (List.map Value.int (List.map (fun c => c.toInt8.toInt32) (own_mk zt zc1 zc2 zc3))) (.int (0 : Int32)) := G573_3.keep Kc601 nin0
    have N601 := Fr.app N573 N601q
    obtain ⟨b629, g629⟩ : ∃ z, z = T601.heap.size := ⟨_, rfl⟩
    obtain ⟨T629, h629, X629, e629, E629, A629, D629, -, st629⟩ := newO X601 hx hZ hown (hw _ (List.mem_of_getElem? (i := 38) rfl)) (hw _ (List.mem_of_getElem? (i := 39) rfl)) (hw _ (List.mem_of_getElem? (i := 40) rfl)) rfl (g := (mkF m 179 #[.val (.int p0_0), .val (.int p0_1), .val (.int p0_2), .val (.int p0_3), .val (.int (4 : Int32)), .val (.ref u_END), .val (.int zt), .val (.int zs), .val (.int zc1), .val (.int zc2), .val (.int zc3), .val (.int zd1), .val (.int zd2), .val (.int zd3), .val (.ref x3_573), .val (.ref x3_601), .unset, .unset] [])) rfl (hb hby at_179) (by decide) (by decide)
    rw [← g629] at A629 D629 st629
    have ne630 : u_NUMBER ≠ b629 := Nat.ne_of_lt (Nat.lt_of_lt_of_le F610.lt (Nat.le_of_eq g629.symm))
    have ne631 : u_SYMBOL ≠ b629 := Nat.ne_of_lt (Nat.lt_of_lt_of_le F612.lt (Nat.le_of_eq g629.symm))
    have ne632 : u_NAME ≠ b629 := Nat.ne_of_lt (Nat.lt_of_lt_of_le F616.lt (Nat.le_of_eq g629.symm))
    have ne633 : u_END ≠ b629 := Nat.ne_of_lt (Nat.lt_of_lt_of_le F619.lt (Nat.le_of_eq g629.symm))
    have ne634 : u_STRING ≠ b629 := Nat.ne_of_lt (Nat.lt_of_lt_of_le F622.lt (Nat.le_of_eq g629.symm))
    have ne635 : x3_573 ≠ b629 := Nat.ne_of_lt (Nat.lt_of_lt_of_le F625.lt (Nat.le_of_eq g629.symm))
    have ne636 : d3_573 ≠ b629 := Nat.ne_of_lt (Nat.lt_of_lt_of_le F628.lt (Nat.le_of_eq g629.symm))
    have ne637 : x3_601 ≠ b629 := Nat.ne_of_lt (Nat.lt_of_lt_of_le G601_0.lt (Nat.le_of_eq g629.symm))
    have ne638 : d3_601 ≠ b629 := Nat.ne_of_lt (Nat.lt_of_lt_of_le G601_3.lt (Nat.le_of_eq g629.symm))
    have sfn629 := Safe.new (Z := Z) (EL := consts_1) (vm := T601.vm) (Nat.le_of_eq g629.symm)
    have sf639 := Safe.ext E629 hCR.1 sfn629
    have hCR := hCR.trans (CHr.ext E629 hCR.1)
    have hk := Nat.le_trans hk E629.1
    have gg629 : n0 ≤ b629 := Nat.le_trans Zs601 (Nat.le_of_eq g629.symm)
    have Zs629 : n0 ≤ h629.size := Nat.le_trans Zs601 E629.1
    have F640 : Sta Z h629 "com/example/oyster/oyster/engine/Tokens$Kind" "NUMBER" "Lcom/example/oyster/oyster/engine/Tokens$Kind;" (.ref u_NUMBER) := F609.ext E629
    have F641 : Exa Z h629 u_NUMBER "com/example/oyster/oyster/engine/Tokens$Kind" := F610.ext E629
    have F642 : Sta Z h629 "com/example/oyster/oyster/engine/Tokens$Kind" "SYMBOL" "Lcom/example/oyster/oyster/engine/Tokens$Kind;" (.ref u_SYMBOL) := F611.ext E629
    have F643 : Exa Z h629 u_SYMBOL "com/example/oyster/oyster/engine/Tokens$Kind" := F612.ext E629
    have F644 : Fld Z h629 u_NUMBER "java/lang/Enum" "ordinal" "I" (.int (0 : Int32)) := F613.ext E629
    have F645 : Fld Z h629 u_SYMBOL "java/lang/Enum" "ordinal" "I" (.int (3 : Int32)) := F614.ext E629
    have F646 : Sta Z h629 "com/example/oyster/oyster/engine/Tokens$Kind" "NAME" "Lcom/example/oyster/oyster/engine/Tokens$Kind;" (.ref u_NAME) := F615.ext E629
    have F647 : Exa Z h629 u_NAME "com/example/oyster/oyster/engine/Tokens$Kind" := F616.ext E629
    have F648 : Fld Z h629 u_NAME "java/lang/Enum" "ordinal" "I" (.int (2 : Int32)) := F617.ext E629
    have F649 : Sta Z h629 "com/example/oyster/oyster/engine/Tokens$Kind" "END" "Lcom/example/oyster/oyster/engine/Tokens$Kind;" (.ref u_END) := F618.ext E629
    have F650 : Exa Z h629 u_END "com/example/oyster/oyster/engine/Tokens$Kind" := F619.ext E629
    have F651 : Fld Z h629 u_END "java/lang/Enum" "ordinal" "I" (.int (4 : Int32)) := F620.ext E629
    have F652 : Sta Z h629 "com/example/oyster/oyster/engine/Tokens$Kind" "STRING" "Lcom/example/oyster/oyster/engine/Tokens$Kind;" (.ref u_STRING) := F621.ext E629
    have F653 : Exa Z h629 u_STRING "com/example/oyster/oyster/engine/Tokens$Kind" := F622.ext E629
    have F654 : Fld Z h629 u_STRING "java/lang/Enum" "ordinal" "I" (.int (1 : Int32)) := F623.ext E629
    have F655 : Sta Z h629 "java/lang/String" "COMPACT_STRINGS" "Z" (.int cs) := F624.ext E629
    have F656 : Exa Z h629 x3_573 "java/lang/String" := F625.ext E629
    have F657 : Fld Z h629 x3_573 "java/lang/String" "value" "[B" (.ref d3_573) := F626.ext E629
    have F658 : Fld Z h629 x3_573 "java/lang/String" "coder" "B" (.int (0 : Int32)) := F627.ext E629
    have F659 : Arv Z h629 d3_573 kv3_573 .byte (Int32.ofNat (own_mk zt zc1 zc2 zc3).length) (List.map Value.int (List.map (fun c => c.toInt8.toInt32) (own_mk zt zc1 zc2 zc3))) (.int (0 : Int32)) := F628.ext E629
    have F660 : Exa Z h629 x3_601 "java/lang/String" := G601_0.ext E629
    have F661 : Fld Z h629 x3_601 "java/lang/String" "value" "[B" (.ref d3_601) := G601_1.ext E629
    have F662 : Fld Z h629 x3_601 "java/lang/String" "coder" "B" (.int (0 : Int32)) := G601_2.ext E629
    have F663 : Arv Z h629 d3_601 kv3_601 .byte (Int32.ofNat (own_mk zs zx1 zx2 zx3).length) (List.map Value.int (List.map (fun c => c.toInt8.toInt32) (own_mk zs zx1 zx2 zx3))) (.int (0 : Int32)) := G601_3.ext E629
    have F664 : Fld Z h629 b629 "com/example/oyster/oyster/engine/Tokens$Token" "kind" "Lcom/example/oyster/oyster/engine/Tokens$Kind;" .null := D629 (Or.inr (hw _ (List.mem_of_getElem? (i := 51) rfl))) (ty := (.object "com/example/oyster/oyster/engine/Tokens$Kind")) (by decide)
    have F665 : Fld Z h629 b629 "com/example/oyster/oyster/engine/Tokens$Token" "text" "Ljava/lang/String;" .null := D629 (Or.inr (hw _ (List.mem_of_getElem? (i := 53) rfl))) (ty := (.object "java/lang/String")) (by decide)
    have F666 : Fld Z h629 b629 "com/example/oyster/oyster/engine/Tokens$Token" "column" "I" (.int (0 : Int32)) := D629 (Or.inr (hw _ (List.mem_of_getElem? (i := 55) rfl))) (ty := .int) (by decide)
    obtain ⟨_, _, ⟨T667, L667, k667, n667⟩, -, X667, ⟨Lc667, hQ667, l667, y667, z667⟩, st667⟩ := X629.specialBack hx (y := (⟨"com/example/oyster/oyster/engine/Tokens$Token", "<init>", "(Lcom/example/oyster/oyster/engine/Tokens$Kind;Ljava/lang/String;I)V"⟩ : MethodName)) rfl hown (mvT hZ (hw _ (List.mem_of_getElem? (i := 41) rfl))) (mvT hZ (hw _ (List.mem_of_getElem? (i := 42) rfl))) (mvT hZ (hw _ (List.mem_of_getElem? (i := 43) rfl))) (by decide) (backOf (W := 1) (rm6 l Z a0 hw [] b629 u_END x3_573 p0_3 h629 n0 Zs629 A629 F664 F665 F666 gg629) hZ (hw _ (List.mem_of_getElem? (i := 43) rfl)) (hw _ (List.mem_of_getElem? (i := 40) rfl)) (by decide) (by decide)) (g := (mkF m 188 #[.val (.int p0_0), .val (.int p0_1), .val (.int p0_2), .val (.int p0_3), .val (.int (4 : Int32)), .val (.ref u_END), .val (.int zt), .val (.int zs), .val (.int zc1), .val (.int zc2), .val (.int zc3), .val (.int zd1), .val (.int zd2), .val (.int zd3), .val (.ref x3_573), .val (.ref x3_601), .unset, .unset] [(.int p0_3), (.ref x3_573), (.ref u_END), (.ref b629), (.ref b629)])) rfl (by rw [hml]; rfl) (Steps.refl _) (a := b629) (argsL := [(.ref u_END), (.ref x3_573), (.int p0_3)]) (rest := [(.ref b629)]) (lenOf pd_5 rfl) rfl (by show 2 * 0 + _ ≤ _; exact Nat.le_of_eq rfl) (hb hby at_188) (fun _ _ => ⟨rfl, e629, (by decide : 13 + 0 ≤ _), (by decide : 27 + 0 ≤ _)⟩)
    dsimp only [Pt.U, Pt.locs, Pt.cells, Pt.slots] at X667 l667 y667 z667 st667 hQ667
    subst l667 y667 z667
    obtain ⟨rfl, N667q, Kc667, G667_0, G667_1, G667_2⟩ := hQ667
    have Zs667 : n0 ≤ T667.heap.size := Nat.le_trans Zs629 Kc667.1
    have sf668 := Safe.keep Kc667 (sfS (Safe.exa hZ.alike A629 (by decide) (by decide)) sf0) hCR.1 sf639
    have hCR := hCR.trans (CHr.keep Kc667 (sfS (Safe.exa hZ.alike A629 (by decide) (by decide)) sf0) hCR.1)
    have hk := Nat.le_trans hk Kc667.1
    have F669 : Sta Z T667.heap "com/example/oyster/oyster/engine/Tokens$Kind" "NUMBER" "Lcom/example/oyster/oyster/engine/Tokens$Kind;" (.ref u_NUMBER) := own_stakeep F640 Kc667 (allS (own_nsE A629) all0)
    have F670 : Exa Z T667.heap u_NUMBER "com/example/oyster/oyster/engine/Tokens$Kind" := F641.keep Kc667
    have F671 : Sta Z T667.heap "com/example/oyster/oyster/engine/Tokens$Kind" "SYMBOL" "Lcom/example/oyster/oyster/engine/Tokens$Kind;" (.ref u_SYMBOL) := own_stakeep F642 Kc667 (allS (own_nsE A629) all0)
    have F672 : Exa Z T667.heap u_SYMBOL "com/example/oyster/oyster/engine/Tokens$Kind" := F643.keep Kc667
    have F673 : Fld Z T667.heap u_NUMBER "java/lang/Enum" "ordinal" "I" (.int (0 : Int32)) := F644.keep Kc667 (ninS ne630 nin0)
    have F674 : Fld Z T667.heap u_SYMBOL "java/lang/Enum" "ordinal" "I" (.int (3 : Int32)) := F645.keep Kc667 (ninS ne631 nin0)
    have F675 : Sta Z T667.heap "com/example/oyster/oyster/engine/Tokens$Kind" "NAME" "Lcom/example/oyster/oyster/engine/Tokens$Kind;" (.ref u_NAME) := own_stakeep F646 Kc667 (allS (own_nsE A629) all0)
    have F676 : Exa Z T667.heap u_NAME "com/example/oyster/oyster/engine/Tokens$Kind" := F647.keep Kc667
    have F677 : Fld Z T667.heap u_NAME "java/lang/Enum" "ordinal" "I" (.int (2 : Int32)) := F648.keep Kc667 (ninS ne632 nin0)
    have F678 : Sta Z T667.heap "com/example/oyster/oyster/engine/Tokens$Kind" "END" "Lcom/example/oyster/oyster/engine/Tokens$Kind;" (.ref u_END) := own_stakeep F649 Kc667 (allS (own_nsE A629) all0)
    have F679 : Exa Z T667.heap u_END "com/example/oyster/oyster/engine/Tokens$Kind" := F650.keep Kc667
    have F680 : Fld Z T667.heap u_END "java/lang/Enum" "ordinal" "I" (.int (4 : Int32)) := F651.keep Kc667 (ninS ne633 nin0)
    have F681 : Sta Z T667.heap "com/example/oyster/oyster/engine/Tokens$Kind" "STRING" "Lcom/example/oyster/oyster/engine/Tokens$Kind;" (.ref u_STRING) := own_stakeep F652 Kc667 (allS (own_nsE A629) all0)
    have F682 : Exa Z T667.heap u_STRING "com/example/oyster/oyster/engine/Tokens$Kind" := F653.keep Kc667
    have F683 : Fld Z T667.heap u_STRING "java/lang/Enum" "ordinal" "I" (.int (1 : Int32)) := F654.keep Kc667 (ninS ne634 nin0)
    have F684 : Sta Z T667.heap "java/lang/String" "COMPACT_STRINGS" "Z" (.int cs) := own_stakeep F655 Kc667 (allS (own_nsE A629) all0)
    have F685 : Exa Z T667.heap x3_573 "java/lang/String" := F656.keep Kc667
    have F686 : Fld Z T667.heap x3_573 "java/lang/String" "value" "[B" (.ref d3_573) := F657.keep Kc667 (ninS ne635 nin0)
    have F687 : Fld Z T667.heap x3_573 "java/lang/String" "coder" "B" (.int (0 : Int32)) := F658.keep Kc667 (ninS ne635 nin0)
    have F688 : Arv Z T667.heap d3_573 kv3_573 .byte (Int32.ofNat (own_mk zt zc1 zc2 zc3).length) (List.map Value.int (List.map (fun c => c.toInt8.toInt32) (own_mk zt zc1 zc2 zc3))) (.int (0 : Int32)) := F659.keep Kc667 (ninS ne636 nin0)
    have F689 : Exa Z T667.heap x3_601 "java/lang/String" := F660.keep Kc667
    have F690 : Fld Z T667.heap x3_601 "java/lang/String" "value" "[B" (.ref d3_601) := F661.keep Kc667 (ninS ne637 nin0)
    have F691 : Fld Z T667.heap x3_601 "java/lang/String" "coder" "B" (.int (0 : Int32)) := F662.keep Kc667 (ninS ne637 nin0)
    have F692 : Arv Z T667.heap d3_601 kv3_601 .byte (Int32.ofNat (own_mk zs zx1 zx2 zx3).length) (List.map Value.int (List.map (fun c => c.toInt8.toInt32) (own_mk zs zx1 zx2 zx3))) (.int (0 : Int32)) := F663.keep Kc667 (ninS ne638 nin0)
    have N667 := Fr.app N601 N667q
    obtain ⟨cq694, kq694, q694a, q694b, q694c⟩ := isOf hZ rfl G667_0
    obtain ⟨_, _, ⟨T694, L694, k694, n694⟩, -, X694, ⟨Lc694, hQ694, l694, y694, z694⟩, st694⟩ := X667.virtualBack hx (y := (⟨"com/example/oyster/oyster/engine/Tokens$Token", "isSymbol", "(Ljava/lang/String;)Z"⟩ : MethodName)) (z := (⟨"com/example/oyster/oyster/engine/Tokens$Token", "isSymbol", "(Ljava/lang/String;)Z"⟩ : MethodName)) hown (mvT hZ (hw _ (List.mem_of_getElem? (i := 56) rfl))) (mvT hZ (hw _ (List.mem_of_getElem? (i := 57) rfl))) (notFace_of_selects (args := #[]) (mvT hZ (hw _ (List.mem_of_getElem? (i := 59) rfl)))) (mvT hZ (hw _ (List.mem_of_getElem? (i := 59) rfl))) (mvT hZ (hw _ (List.mem_of_getElem? (i := 58) rfl))) (by decide) (backOf (W := 0) (rm7 l Z a0 hw [] b629 x3_601 u_SYMBOL u_END T667.heap n0 Zs667 G667_1 F671 ne_END) hZ (hw _ (List.mem_of_getElem? (i := 60) rfl)) (hw _ (List.mem_of_getElem? (i := 40) rfl)) (by decide) (by decide)) q694a q694c (g := (mkF m 250 #[.val (.int p0_0), .val (.int p0_1), .val (.int p0_2), .val (.int p0_3), .val (.int (4 : Int32)), .val (.ref u_END), .val (.int zt), .val (.int zs), .val (.int zc1), .val (.int zc2), .val (.int zc3), .val (.int zd1), .val (.int zd2), .val (.int zd3), .val (.ref x3_573), .val (.ref x3_601), .val (.ref b629), .val (.int (0 : Int32))] [(.ref x3_601), (.ref b629)])) rfl (by rw [hml]; rfl) (Steps.refl _) (argsL := [(.ref x3_601)]) (rest := []) (lenOf pd_6 rfl) rfl (by show 2 * 0 + _ ≤ _; exact Nat.le_of_eq rfl) (hb hby at_250) (fun _ _ => ⟨rfl, rfl, (by decide : 13 + 0 ≤ _), (by decide : 27 + 0 ≤ _)⟩)
    dsimp only [Pt.U, Pt.locs, Pt.cells, Pt.slots] at X694 l694 y694 z694 st694 hQ694
    subst l694 y694 z694
    obtain ⟨rfl, N694q, eh694⟩ := hQ694
    have N694 := Fr.app N667 N694q
    have k695 : ∀ t, Steps p.tables e below (T694.setTop (mkF m 263 #[.val (.int p0_0), .val (.int p0_1), .val (.int p0_2), .val (.int p0_3), .val (.int (4 : Int32)), .val (.ref u_END), .val (.int zt), .val (.int zs), .val (.int zc1), .val (.int zc2), .val (.int zc3), .val (.int zd1), .val (.int zd2), .val (.int zd3), .val (.ref x3_573), .val (.ref x3_601), .val (.ref b629), .val (.int (0 : Int32))] [(.int (1 : Int32))])) t → Steps p.tables e below (s₁.setTop (entryFrame m #[(.int p0_0), (.int p0_1), (.int p0_2), (.int p0_3)] maxLocals)) t := by
      intro t k
      refine k600 t ?_
      show Steps p.tables e below (T573.setTop (mkF m 174 #[.val (.int p0_0), .val (.int p0_1), .val (.int p0_2), .val (.int p0_3), .val (.int (4 : Int32)), .val (.ref u_END), .val (.int zt), .val (.int zs), .val (.int zc1), .val (.int zc2), .val (.int zc3), .val (.int zd1), .val (.int zd2), .val (.int zd3), .val (.ref x3_573), .unset, .unset, .unset] [(.int zx3), (.int zx2), (.int zx1), (.int zs)])) _
      refine st601.trans ?_
      show Steps p.tables e below (T601.setTop (mkF m 177 #[.val (.int p0_0), .val (.int p0_1), .val (.int p0_2), .val (.int p0_3), .val (.int (4 : Int32)), .val (.ref u_END), .val (.int zt), .val (.int zs), .val (.int zc1), .val (.int zc2), .val (.int zc3), .val (.int zd1), .val (.int zd2), .val (.int zd3), .val (.ref x3_573), .unset, .unset, .unset] [(.ref x3_601)])) _
      refine XS.astore X601.here hx rfl (hb hby at_177) rfl rfl (l' := #[.val (.int p0_0), .val (.int p0_1), .val (.int p0_2), .val (.int p0_3), .val (.int (4 : Int32)), .val (.ref u_END), .val (.int zt), .val (.int zs), .val (.int zc1), .val (.int zc2), .val (.int zc3), .val (.int zd1), .val (.int zd2), .val (.int zd3), .val (.ref x3_573), .val (.ref x3_601), .unset, .unset]) rfl ?_
      show Steps p.tables e below (T601.setTop (mkF m 179 #[.val (.int p0_0), .val (.int p0_1), .val (.int p0_2), .val (.int p0_3), .val (.int (4 : Int32)), .val (.ref u_END), .val (.int zt), .val (.int zs), .val (.int zc1), .val (.int zc2), .val (.int zc3), .val (.int zd1), .val (.int zd2), .val (.int zd3), .val (.ref x3_573), .val (.ref x3_601), .unset, .unset] [])) _
      refine st629 _ ?_
      show Steps p.tables e below (T629.setTop (mkF m 182 #[.val (.int p0_0), .val (.int p0_1), .val (.int p0_2), .val (.int p0_3), .val (.int (4 : Int32)), .val (.ref u_END), .val (.int zt), .val (.int zs), .val (.int zc1), .val (.int zc2), .val (.int zc3), .val (.int zd1), .val (.int zd2), .val (.int zd3), .val (.ref x3_573), .val (.ref x3_601), .unset, .unset] [(.ref b629)])) _
      refine XS.dup X629.here hx rfl (hb hby at_182) rfl rfl ?_
      show Steps p.tables e below (T629.setTop (mkF m 183 #[.val (.int p0_0), .val (.int p0_1), .val (.int p0_2), .val (.int p0_3), .val (.int (4 : Int32)), .val (.ref u_END), .val (.int zt), .val (.int zs), .val (.int zc1), .val (.int zc2), .val (.int zc3), .val (.int zd1), .val (.int zd2), .val (.int zd3), .val (.ref x3_573), .val (.ref x3_601), .unset, .unset] [(.ref b629), (.ref b629)])) _
      refine XS.aload X629.here hx rfl (hb hby at_183) rfl rfl ?_
      show Steps p.tables e below (T629.setTop (mkF m 185 #[.val (.int p0_0), .val (.int p0_1), .val (.int p0_2), .val (.int p0_3), .val (.int (4 : Int32)), .val (.ref u_END), .val (.int zt), .val (.int zs), .val (.int zc1), .val (.int zc2), .val (.int zc3), .val (.int zd1), .val (.int zd2), .val (.int zd3), .val (.ref x3_573), .val (.ref x3_601), .unset, .unset] [(.ref u_END), (.ref b629), (.ref b629)])) _
      refine XS.aload X629.here hx rfl (hb hby at_185) rfl rfl ?_
      show Steps p.tables e below (T629.setTop (mkF m 187 #[.val (.int p0_0), .val (.int p0_1), .val (.int p0_2), .val (.int p0_3), .val (.int (4 : Int32)), .val (.ref u_END), .val (.int zt), .val (.int zs), .val (.int zc1), .val (.int zc2), .val (.int zc3), .val (.int zd1), .val (.int zd2), .val (.int zd3), .val (.ref x3_573), .val (.ref x3_601), .unset, .unset] [(.ref x3_573), (.ref u_END), (.ref b629), (.ref b629)])) _
      refine XS.iloadN X629.here hx rfl (hb hby at_187) rfl ?_
      show Steps p.tables e below (T629.setTop (mkF m 188 #[.val (.int p0_0), .val (.int p0_1), .val (.int p0_2), .val (.int p0_3), .val (.int (4 : Int32)), .val (.ref u_END), .val (.int zt), .val (.int zs), .val (.int zc1), .val (.int zc2), .val (.int zc3), .val (.int zd1), .val (.int zd2), .val (.int zd3), .val (.ref x3_573), .val (.ref x3_601), .unset, .unset] [(.int p0_3), (.ref x3_573), (.ref u_END), (.ref b629), (.ref b629)])) _
      refine st667.trans ?_
      show Steps p.tables e below (T667.setTop (mkF m 191 #[.val (.int p0_0), .val (.int p0_1), .val (.int p0_2), .val (.int p0_3), .val (.int (4 : Int32)), .val (.ref u_END), .val (.int zt), .val (.int zs), .val (.int zc1), .val (.int zc2), .val (.int zc3), .val (.int zd1), .val (.int zd2), .val (.int zd3), .val (.ref x3_573), .val (.ref x3_601), .unset, .unset] [(.ref b629)])) _
      refine XS.astore X667.here hx rfl (hb hby at_191) rfl rfl (l' := #[.val (.int p0_0), .val (.int p0_1), .val (.int p0_2), .val (.int p0_3), .val (.int (4 : Int32)), .val (.ref u_END), .val (.int zt), .val (.int zs), .val (.int zc1), .val (.int zc2), .val (.int zc3), .val (.int zd1), .val (.int zd2), .val (.int zd3), .val (.ref x3_573), .val (.ref x3_601), .val (.ref b629), .unset]) rfl ?_
      show Steps p.tables e below (T667.setTop (mkF m 193 #[.val (.int p0_0), .val (.int p0_1), .val (.int p0_2), .val (.int p0_3), .val (.int (4 : Int32)), .val (.ref u_END), .val (.int zt), .val (.int zs), .val (.int zc1), .val (.int zc2), .val (.int zc3), .val (.int zd1), .val (.int zd2), .val (.int zd3), .val (.ref x3_573), .val (.ref x3_601), .val (.ref b629), .unset] [])) _
      refine XS.iload X667.here hx rfl (hb hby at_193) rfl ?_
      show Steps p.tables e below (T667.setTop (mkF m 195 #[.val (.int p0_0), .val (.int p0_1), .val (.int p0_2), .val (.int p0_3), .val (.int (4 : Int32)), .val (.ref u_END), .val (.int zt), .val (.int zs), .val (.int zc1), .val (.int zc2), .val (.int zc3), .val (.int zd1), .val (.int zd2), .val (.int zd3), .val (.ref x3_573), .val (.ref x3_601), .val (.ref b629), .unset] [(.int (4 : Int32))])) _
      refine XS.iconst X667.here hx rfl (hb hby at_195) ?_
      show Steps p.tables e below (T667.setTop (mkF m 196 #[.val (.int p0_0), .val (.int p0_1), .val (.int p0_2), .val (.int p0_3), .val (.int (4 : Int32)), .val (.ref u_END), .val (.int zt), .val (.int zs), .val (.int zc1), .val (.int zc2), .val (.int zc3), .val (.int zd1), .val (.int zd2), .val (.int zd3), .val (.ref x3_573), .val (.ref x3_601), .val (.ref b629), .unset] [(.int (3 : Int32)), (.int (4 : Int32))])) _
      refine XS.icmpYes X667.here hx rfl (pc0 := 196) (pc' := 243) rfl (hb hby at_196) rfl (feq (by decide : ¬ ((4 : Int32) = (3 : Int32)))).2 (by decide) (by decide) ?_
      show Steps p.tables e below (T667.setTop (mkF m 243 #[.val (.int p0_0), .val (.int p0_1), .val (.int p0_2), .val (.int p0_3), .val (.int (4 : Int32)), .val (.ref u_END), .val (.int zt), .val (.int zs), .val (.int zc1), .val (.int zc2), .val (.int zc3), .val (.int zd1), .val (.int zd2), .val (.int zd3), .val (.ref x3_573), .val (.ref x3_601), .val (.ref b629), .unset] [])) _
      refine XS.iconst X667.here hx rfl (hb hby at_243) ?_
      show Steps p.tables e below (T667.setTop (mkF m 244 #[.val (.int p0_0), .val (.int p0_1), .val (.int p0_2), .val (.int p0_3), .val (.int (4 : Int32)), .val (.ref u_END), .val (.int zt), .val (.int zs), .val (.int zc1), .val (.int zc2), .val (.int zc3), .val (.int zd1), .val (.int zd2), .val (.int zd3), .val (.ref x3_573), .val (.ref x3_601), .val (.ref b629), .unset] [(.int (0 : Int32))])) _
      refine XS.istore X667.here hx rfl (hb hby at_244) rfl (l' := #[.val (.int p0_0), .val (.int p0_1), .val (.int p0_2), .val (.int p0_3), .val (.int (4 : Int32)), .val (.ref u_END), .val (.int zt), .val (.int zs), .val (.int zc1), .val (.int zc2), .val (.int zc3), .val (.int zd1), .val (.int zd2), .val (.int zd3), .val (.ref x3_573), .val (.ref x3_601), .val (.ref b629), .val (.int (0 : Int32))]) rfl ?_
      show Steps p.tables e below (T667.setTop (mkF m 246 #[.val (.int p0_0), .val (.int p0_1), .val (.int p0_2), .val (.int p0_3), .val (.int (4 : Int32)), .val (.ref u_END), .val (.int zt), .val (.int zs), .val (.int zc1), .val (.int zc2), .val (.int zc3), .val (.int zd1), .val (.int zd2), .val (.int zd3), .val (.ref x3_573), .val (.ref x3_601), .val (.ref b629), .val (.int (0 : Int32))] [])) _
      refine XS.aload X667.here hx rfl (hb hby at_246) rfl rfl ?_
      show Steps p.tables e below (T667.setTop (mkF m 248 #[.val (.int p0_0), .val (.int p0_1), .val (.int p0_2), .val (.int p0_3), .val (.int (4 : Int32)), .val (.ref u_END), .val (.int zt), .val (.int zs), .val (.int zc1), .val (.int zc2), .val (.int zc3), .val (.int zd1), .val (.int zd2), .val (.int zd3), .val (.ref x3_573), .val (.ref x3_601), .val (.ref b629), .val (.int (0 : Int32))] [(.ref b629)])) _
      refine XS.aload X667.here hx rfl (hb hby at_248) rfl rfl ?_
      show Steps p.tables e below (T667.setTop (mkF m 250 #[.val (.int p0_0), .val (.int p0_1), .val (.int p0_2), .val (.int p0_3), .val (.int (4 : Int32)), .val (.ref u_END), .val (.int zt), .val (.int zs), .val (.int zc1), .val (.int zc2), .val (.int zc3), .val (.int zd1), .val (.int zd2), .val (.int zd3), .val (.ref x3_573), .val (.ref x3_601), .val (.ref b629), .val (.int (0 : Int32))] [(.ref x3_601), (.ref b629)])) _
      refine st694.trans ?_
      show Steps p.tables e below (T694.setTop (mkF m 253 #[.val (.int p0_0), .val (.int p0_1), .val (.int p0_2), .val (.int p0_3), .val (.int (4 : Int32)), .val (.ref u_END), .val (.int zt), .val (.int zs), .val (.int zc1), .val (.int zc2), .val (.int zc3), .val (.int zd1), .val (.int zd2), .val (.int zd3), .val (.ref x3_573), .val (.ref x3_601), .val (.ref b629), .val (.int (0 : Int32))] [(.int (0 : Int32))])) _
      refine XS.iload X694.here hx rfl (hb hby at_253) rfl ?_
      show Steps p.tables e below (T694.setTop (mkF m 255 #[.val (.int p0_0), .val (.int p0_1), .val (.int p0_2), .val (.int p0_3), .val (.int (4 : Int32)), .val (.ref u_END), .val (.int zt), .val (.int zs), .val (.int zc1), .val (.int zc2), .val (.int zc3), .val (.int zd1), .val (.int zd2), .val (.int zd3), .val (.ref x3_573), .val (.ref x3_601), .val (.ref b629), .val (.int (0 : Int32))] [(.int (0 : Int32)), (.int (0 : Int32))])) _
      refine XS.icmpNo X694.here hx rfl (hb hby at_255) rfl (teq (by decide : (0 : Int32) = (0 : Int32))).2 ?_
      show Steps p.tables e below (T694.setTop (mkF m 258 #[.val (.int p0_0), .val (.int p0_1), .val (.int p0_2), .val (.int p0_3), .val (.int (4 : Int32)), .val (.ref u_END), .val (.int zt), .val (.int zs), .val (.int zc1), .val (.int zc2), .val (.int zc3), .val (.int zd1), .val (.int zd2), .val (.int zd3), .val (.ref x3_573), .val (.ref x3_601), .val (.ref b629), .val (.int (0 : Int32))] [])) _
      refine XS.iconst X694.here hx rfl (hb hby at_258) ?_
      show Steps p.tables e below (T694.setTop (mkF m 259 #[.val (.int p0_0), .val (.int p0_1), .val (.int p0_2), .val (.int p0_3), .val (.int (4 : Int32)), .val (.ref u_END), .val (.int zt), .val (.int zs), .val (.int zc1), .val (.int zc2), .val (.int zc3), .val (.int zd1), .val (.int zd2), .val (.int zd3), .val (.ref x3_573), .val (.ref x3_601), .val (.ref b629), .val (.int (0 : Int32))] [(.int (1 : Int32))])) _
      refine XS.goto X694.here hx rfl (pc0 := 259) (pc' := 263) rfl (hb hby at_259) (by decide) (by decide) ?_
      exact k
    obtain ⟨fs, hr, hrun, hended, hE1, hE2, hE3, hE4⟩ := X694.leaveW hS (by rw [eh694]; exact hk) (v := some (.int (1 : Int32))) (fun h => by rw [Bd.returns] at h; cases h)
    have hCE := hCR.trans (CHv.at X694 hZ hEL hCR.1)
    refine ⟨_, _, k695 _ ?_, hrun, hended, _, _, rfl, ?_, (by show CHr Z consts_1 s.vm s.heap T694.vm T694.heap; rw [hh, eh694]; exact hCE), ⟨_, rfl⟩, hE2, hE3, hE4.mono (by decide) (by decide)⟩
    · exact retN X694 hx (t := .boolean) Bd.returns (by simp) (hb hby at_263) hr
    · show Q0 Z p0_0 p0_1 p0_2 p0_3 u_NUMBER u_SYMBOL u_NAME u_END u_STRING cs h0 n0 _ T694.heap _
      rw [eh694]
      exact ⟨rfl, N694⟩
set_option maxRecDepth 65536 in
set_option maxHeartbeats 40000000 in
theorem comes_1 {Post : Tables → Env → Array Value → State → Outcome → State → Prop} (hpost : ∀ tb e args s v u, (limb_1_1.after args s (.returned v) u = true ∧ limb_1_2.after args s (.returned v) u = true ∧ True) → ReturnedEndW s (.returned v) u (Jvm.fieldLocs frame_1_writes args s ++ Jvm.arrayLocs frame_1_arrays args s ++ Jvm.staticLocs frame_1_statics s) 24 1152 → Post tb e args s (.returned v) u) :
    ArmFor flags0 classFile x code maxLocals ret World_1 tables_1 room_1 Calls_1 rest_1 Pre_1 Post := by
  intro l hfl _ _ p e ha hc hk s m args below hf hA hF happ hP
  obtain ⟨hcalls, hrest, hpre⟩ := hP
  obtain ⟨-, -, -, hnamed, -, -, -, hat⟩ := (Spec.applies_iff hf).mp happ
  obtain ⟨hg, hn⟩ := and_e (Cond.before_iff.mp (show (Jvm.Cond.and given_1 narrow_1).before args s = true from hpre))
  obtain ⟨gv1, gv2⟩ := and_e hg
  obtain ⟨gv3, gv4⟩ := and_e gv2
  obtain ⟨gv5, gv6⟩ := and_e gv4
  obtain ⟨gv7, gv8⟩ := and_e gv6
  obtain ⟨w0, w1, w2, w3, rfl⟩ : ∃ w0 w1 w2 w3 : Value, args = #[w0, w1, w2, w3] := by
    have hs : args.size = 4 := by simpa [Cond.value, given_1] using gv1
    obtain ⟨L⟩ := args
    match L, hs with
    | [w0, w1, w2, w3], _ => exact ⟨w0, w1, w2, w3, rfl⟩
  have hw := fun d (hd : d ∈ tables_1) => atoms_spec (ws := Jvm.Cond.code x code maxLocals ret :: tables_1) hat d (List.mem_cons_of_mem _ hd)
  have hfit : Fit s := fun {y c} hc i hi => by
    obtain ⟨ha, rfl⟩ := Array.getElem?_eq_some_iff.mp hc
    have q := List.all_eq_true.mp ((Array.all_eq_true_iff_forall_mem.mp hF) _ (Array.getElem_mem ha)) i (List.mem_range.mpr hi)
    simpa [Array.getElem?_eq_getElem hi] using q
  obtain ⟨hsets, hown0⟩ := atoms_of _ (rest_1_c_eq ▸ (show rest_1_c.before _ s = true from hrest))
  have hr0 := Cond.before_iff.mp hown0
  obtain ⟨i0, ei0⟩ := is_v gv3
  obtain rfl : w0 = (.int i0) := Option.some.inj ei0
  obtain ⟨i1, ei1⟩ := is_v gv5
  obtain rfl : w1 = (.int i1) := Option.some.inj ei1
  obtain ⟨i2, ei2⟩ := is_v gv7
  obtain rfl : w2 = (.int i2) := Option.some.inj ei2
  obtain ⟨i3, ei3⟩ := is_v gv8
  obtain rfl : w3 = (.int i3) := Option.some.inj ei3
  obtain ⟨nv1, nv2⟩ := and_e hn
  obtain ⟨nv3, nv4⟩ := and_e nv2
  obtain ⟨nv5, nv6⟩ := and_e nv4
  obtain ⟨nv7, nv8⟩ := and_e nv6
  obtain ⟨nv9, nv10⟩ := and_e nv8
  obtain ⟨nv11, nv12⟩ := and_e nv10
  obtain ⟨nv13, nv14⟩ := and_e nv12
  obtain ⟨nv15, nv16⟩ := and_e nv14
  obtain ⟨nv17, nv18⟩ := and_e nv16
  obtain ⟨u_NUMBER, ev_u_NUMBER, E_u_NUMBER⟩ := own_ex nv1
  have S_NUMBER : Sta s s.heap "com/example/oyster/oyster/engine/Tokens$Kind" "NUMBER" "Lcom/example/oyster/oyster/engine/Tokens$Kind;" (.ref u_NUMBER) := Sta.start ev_u_NUMBER (Or.inr ⟨(hw _ (List.mem_of_getElem? (i := 2) rfl)), (hw _ (List.mem_of_getElem? (i := 3) rfl))⟩)
  obtain ⟨u_SYMBOL, ev_u_SYMBOL, E_u_SYMBOL⟩ := own_ex nv3
  have S_SYMBOL : Sta s s.heap "com/example/oyster/oyster/engine/Tokens$Kind" "SYMBOL" "Lcom/example/oyster/oyster/engine/Tokens$Kind;" (.ref u_SYMBOL) := Sta.start ev_u_SYMBOL (Or.inr ⟨(hw _ (List.mem_of_getElem? (i := 2) rfl)), (hw _ (List.mem_of_getElem? (i := 62) rfl))⟩)
  have e_1 := own_evI nv5
  have F_u_NUMBER_ordinal : Fld s s.heap u_NUMBER "java/lang/Enum" "ordinal" "I" (.int (0 : Int32)) := own_fldV ev_u_NUMBER e_1
  have e_2 := own_evI nv7
  have F_u_SYMBOL_ordinal : Fld s s.heap u_SYMBOL "java/lang/Enum" "ordinal" "I" (.int (3 : Int32)) := own_fldV ev_u_SYMBOL e_2
  obtain ⟨u_NAME, ev_u_NAME, E_u_NAME⟩ := own_ex nv9
  have S_NAME : Sta s s.heap "com/example/oyster/oyster/engine/Tokens$Kind" "NAME" "Lcom/example/oyster/oyster/engine/Tokens$Kind;" (.ref u_NAME) := Sta.start ev_u_NAME (Or.inr ⟨(hw _ (List.mem_of_getElem? (i := 2) rfl)), (hw _ (List.mem_of_getElem? (i := 64) rfl))⟩)
  have e_3 := own_evI nv11
  have F_u_NAME_ordinal : Fld s s.heap u_NAME "java/lang/Enum" "ordinal" "I" (.int (2 : Int32)) := own_fldV ev_u_NAME e_3
  obtain ⟨u_END, ev_u_END, E_u_END⟩ := own_ex nv13
  have S_END : Sta s s.heap "com/example/oyster/oyster/engine/Tokens$Kind" "END" "Lcom/example/oyster/oyster/engine/Tokens$Kind;" (.ref u_END) := Sta.start ev_u_END (Or.inr ⟨(hw _ (List.mem_of_getElem? (i := 2) rfl)), (hw _ (List.mem_of_getElem? (i := 69) rfl))⟩)
  have e_4 := own_evI nv15
  have F_u_END_ordinal : Fld s s.heap u_END "java/lang/Enum" "ordinal" "I" (.int (4 : Int32)) := own_fldV ev_u_END e_4
  obtain ⟨u_STRING, ev_u_STRING, E_u_STRING⟩ := own_ex nv17
  have S_STRING : Sta s s.heap "com/example/oyster/oyster/engine/Tokens$Kind" "STRING" "Lcom/example/oyster/oyster/engine/Tokens$Kind;" (.ref u_STRING) := Sta.start ev_u_STRING (Or.inr ⟨(hw _ (List.mem_of_getElem? (i := 2) rfl)), (hw _ (List.mem_of_getElem? (i := 71) rfl))⟩)
  have e_5 := own_evI nv18
  have F_u_STRING_ordinal : Fld s s.heap u_STRING "java/lang/Enum" "ordinal" "I" (.int (1 : Int32)) := own_fldV ev_u_STRING e_5
  obtain ⟨cs, ev_cs⟩ := is_v (Cond.before_iff.mp (hsets _ (List.mem_of_getElem? (i := 1) rfl)))
  have Sc : Sta s s.heap "java/lang/String" "COMPACT_STRINGS" "Z" (.int cs) := Sta.start ev_cs (Or.inl (hsets _ (List.mem_of_getElem? (i := 0) rfl)))
  have hcs : ¬ (cs = (0 : Int32)) := gotF (Cond.eq_ints ev_cs (Term.int_eval _)) (not_v (Cond.before_iff.mp (hsets _ (List.mem_of_getElem? (i := 2) rfl))))
  obtain ⟨fm, ev_fm, hfm⟩ := isR_v (Cond.before_iff.mp (hsets _ (List.mem_of_getElem? (i := 8) rfl)))
  have Sf : Sta s s.heap "jdk/internal/util/Preconditions" "SIOOBE_FORMATTER" "Ljava/util/function/BiFunction;" fm := Sta.start ev_fm (Or.inl (hsets _ (List.mem_of_getElem? (i := 7) rfl)))
  have hEL : EW s _ consts_1 := (EW.cons (hw _ (List.mem_of_getElem? (i := 65) rfl)) (by decide) EW.nil)
  have wS : ∀ a ∈ Bundle.stringAtoms, a.before _ s = true := fun d hd => by
    simp only [Bundle.stringAtoms, Bundle.sN, List.mem_cons, List.not_mem_nil, or_false] at hd
    rcases hd with rfl | rfl | rfl | rfl | rfl | rfl | rfl
    · exact (hw _ (List.mem_of_getElem? (i := 10) rfl))
    · exact (hw _ (List.mem_of_getElem? (i := 9) rfl))
    · exact (hw _ (List.mem_of_getElem? (i := 27) rfl))
    · exact (hw _ (List.mem_of_getElem? (i := 37) rfl))
    · exact (hw _ (List.mem_of_getElem? (i := 35) rfl))
    · exact (hw _ (List.mem_of_getElem? (i := 66) rfl))
    · exact (hw _ (List.mem_of_getElem? (i := 67) rfl))
  have hCH : CHv s consts_1 s.vm s.heap := CHv.start hEL (fun p hp => hcalls.1 p hp) (hsets _ (List.mem_of_getElem? (i := 2) rfl)) (wS _ (by simp [Bundle.stringAtoms])) (wS _ (by simp [Bundle.stringAtoms, Bundle.sN]))
  obtain ⟨n, o, h1, h2, h3, _, L, rfl, ⟨rfl, N⟩, -, hq⟩ := rm0 l s _ hw tables_1 hEL wS i0 i1 i2 i3 u_NUMBER u_SYMBOL u_NAME u_END u_STRING cs s.heap s.heap.size (Nat.le_refl _) S_NUMBER E_u_NUMBER S_SYMBOL E_u_SYMBOL F_u_NUMBER_ordinal F_u_SYMBOL_ordinal S_NAME E_u_NAME F_u_NAME_ordinal S_END E_u_END F_u_END_ordinal S_STRING E_u_STRING F_u_STRING_ordinal Sc hcs p e ha hc hk s m _ below hf ((Spec.applies_iff_loose hf).mp happ).1 ⟨rfl, State.Warmed39.refl s, rfl, hCH⟩ trivial
  refine ⟨n, _, h1, h2, h3, hpost _ _ _ _ _ _ ⟨Cond.after_iff.mpr rfl, Cond.after_iff.mpr (eq_i res_at (Term.int_eval (1)) rfl), trivial⟩ ⟨hq.1, hq.2.1, hq.2.2.1, (hq.2.2.2.sift fun y hy => Or.inr (N y hy)).mono (by decide) (by decide)⟩⟩
theorem main_1_1 : Claimed_1_1 := comes_1 fun _ _ _ _ _ _ h hF => ⟨h.1, hF⟩
theorem main_1_2 : Claimed_1_2 := comes_1 fun _ _ _ _ _ _ h hF => ⟨h.2.1, hF⟩
end Jvm.Pilot.@@N@@
namespace Jvm.Pilot.@@N@@
open Jvm Jvm.ClassFile Sem Op Lib Jvm.Free Jvm.Stand Jvm.Pilot.@@N@@.Jvm.D
/-! MADE BY PROGRAM (witnessworld.py) out of the Statement's table words and the real class files: 23 classes; the members and pool entries that the words name. The judged class is class 1, her method 2. -/
namespace start1
open Jvm.ClassFile
def u (s : String) : CpInfo := .utf8 (stringToUtf16 s)
/-- a pool by its gaps: so many unusable entries, then the entry; so many at the end -/
def gap : Nat → List CpInfo → List CpInfo
  | 0, r => r
  | n + 1, r => .unusable :: gap n r
def poolList (es : List (Nat × CpInfo)) (last : Nat) : List CpInfo := es.foldr (fun e r => gap e.1 (e.2 :: r)) (gap last [])
def pool (es : List (Nat × CpInfo)) (last : Nat) : Array CpInfo := ⟨poolList es last⟩
def fileOf (pool : Array CpInfo) (this : Nat) (attrs : Array Attribute := #[]) (ms : Array MethodInfo := #[]) (fl : Nat := 33) (sup : Nat := 0) (ifs : Array Nat := #[]) (fds : Array FieldInfo := #[]) : ClassFile where
  minorVersion := 0
  majorVersion := 65
  constantPool := pool
  accessFlags := fl
  thisClass := this
  superClass := sup
  interfaces := ifs
  fields := fds
  methods := ms
  attributes := attrs
def plain (name : String) (sup : Option ClassId) : Class where
  name := name
  kind := .ordinary
  loader := none
  accessFlags := 33
  super := sup
  interfaces := #[]
  cf := none
  fields := #[]
  methods := #[]
  instanceTypes := #[]
  staticTypes := #[]
  resolved := #[]
  callSites := []
  init := .initialized
  statics := none
  mirror := none

def pool0 : Array CpInfo := pool [(5, u "<init>"), (0, u "()V"), (1, .class_ 10), (1, u "java/lang/Object")] 113

def k0c0 : Code := { maxStack := 0, maxLocals := 1, code := object_method_1_code, exceptionTable := #[], attributes := #[] }
def k0m0 : Method := { name := "<init>", desc := "()V", sig := { parameters := [], returnType := none }, accessFlags := 1, code := some k0c0 }
/-- java/lang/Object -/
def k0 : Class := { plain "java/lang/Object" none with
  accessFlags := 33
  interfaces := #[]
  cf := some (fileOf pool0 8 #[] #[{ accessFlags := 1, nameIndex := 5, descriptorIndex := 6, attributes := #[] }] 33 0 #[] #[])
  fields := #[]
  methods := #[k0m0]
  instanceTypes := #[]
  staticTypes := #[]
  resolved := Array.replicate 124 none
  statics := none }

def pool1 : Array CpInfo := pool [(2, .class_ 4), (1, u "java/lang/Object"), (0, u "<init>"), (0, u "()V"), (0, .class_ 8), (0, u "java/lang/String"), (0, .methodref 7 10), (0, .nameAndType 5 11), (0, u "([C)V"), (0, .integer 2147483647), (0, .fieldref 14 15), (0, .class_ 16), (0, .nameAndType 17 18), (0, u "com/example/oyster/oyster/engine/Tokens$Kind"), (0, u "NUMBER"), (0, u "Lcom/example/oyster/oyster/engine/Tokens$Kind;"), (0, .fieldref 14 20), (0, .nameAndType 21 18), (0, u "STRING"), (0, .fieldref 14 23), (0, .nameAndType 24 18), (0, u "NAME"), (0, .fieldref 14 26), (0, .nameAndType 27 18), (0, u "SYMBOL"), (0, .fieldref 14 29), (0, .nameAndType 30 18), (0, u "END"), (0, .methodref 32 33), (0, .class_ 34), (0, .nameAndType 35 36), (0, u "com/example/oyster/oyster/engine/TokenIsSymbolPinLaw"), (0, u "make"), (0, u "(ICCC)Ljava/lang/String;"), (0, .class_ 38), (0, u "com/example/oyster/oyster/engine/Tokens$Token"), (0, .methodref 37 40), (0, .nameAndType 5 41), (0, u "(Lcom/example/oyster/oyster/engine/Tokens$Kind;Ljava/lang/String;I)V"), (0, .methodref 37 43), (0, .nameAndType 44 45), (0, u "isSymbol"), (0, u "(Ljava/lang/String;)Z"), (3, u "law"), (0, u "(IIII)Z")] 7

def k1m0 : Method := { name := "<init>", desc := "()V", sig := { parameters := [], returnType := none }, accessFlags := 1, code := none }
def k1c1 : Code := { maxStack := 6, maxLocals := 4, code := method_2_code, exceptionTable := #[], attributes := #[] }
def k1m1 : Method := { name := "make", desc := "(ICCC)Ljava/lang/String;", sig := { parameters := [.int, .char, .char, .char], returnType := some (.object "java/lang/String") }, accessFlags := 10, code := some k1c1 }
def k1c2 : Code := { maxStack := 5, maxLocals := 18, code := code, exceptionTable := #[], attributes := #[] }
def k1m2 : Method := { name := "law", desc := "(IIII)Z", sig := { parameters := [.int, .int, .int, .int], returnType := some .boolean }, accessFlags := 9, code := some k1c2 }
/-- com/example/oyster/oyster/engine/TokenIsSymbolPinLaw -/
def k1 : Class := { plain "com/example/oyster/oyster/engine/TokenIsSymbolPinLaw" (some 0) with
  accessFlags := 49
  interfaces := #[]
  cf := some (fileOf pool1 32 #[] #[{ accessFlags := 1, nameIndex := 5, descriptorIndex := 6, attributes := #[] }, { accessFlags := 10, nameIndex := 35, descriptorIndex := 36, attributes := #[] }, { accessFlags := 9, nameIndex := 49, descriptorIndex := 50, attributes := #[] }] 49 2 #[] #[])
  fields := #[]
  methods := #[k1m0, k1m1, k1m2]
  instanceTypes := #[]
  staticTypes := #[]
  resolved := Array.replicate 58 none
  statics := none }

def pool2 : Array CpInfo := pool [(1, .class_ 2), (0, u "java/lang/constant/Constable"), (0, .class_ 4), (0, u "java/lang/Object")] 6

/-- java/lang/constant/Constable -/
def k2 : Class := { plain "java/lang/constant/Constable" (some 0) with
  accessFlags := 1537
  interfaces := #[]
  cf := some (fileOf pool2 1 #[] #[] 1537 3 #[] #[])
  fields := #[]
  methods := #[]
  instanceTypes := #[]
  staticTypes := #[]
  resolved := Array.replicate 11 none
  statics := none }

def pool3 : Array CpInfo := pool [(1, .class_ 2), (0, u "java/lang/Comparable"), (0, .class_ 4), (0, u "java/lang/Object")] 7

/-- java/lang/Comparable -/
def k3 : Class := { plain "java/lang/Comparable" (some 0) with
  accessFlags := 1537
  interfaces := #[]
  cf := some (fileOf pool3 1 #[] #[] 1537 3 #[] #[])
  fields := #[]
  methods := #[]
  instanceTypes := #[]
  staticTypes := #[]
  resolved := Array.replicate 12 none
  statics := none }

def pool4 : Array CpInfo := pool [(1, .class_ 2), (0, u "java/io/Serializable"), (0, .class_ 4), (0, u "java/lang/Object")] 2

/-- java/io/Serializable -/
def k4 : Class := { plain "java/io/Serializable" (some 0) with
  accessFlags := 1537
  interfaces := #[]
  cf := some (fileOf pool4 1 #[] #[] 1537 3 #[] #[])
  fields := #[]
  methods := #[]
  instanceTypes := #[]
  staticTypes := #[]
  resolved := Array.replicate 7 none
  statics := none }

def pool5 : Array CpInfo := pool [(2, .class_ 4), (1, u "java/lang/Enum"), (0, u "name"), (0, u "Ljava/lang/String;"), (2, u "ordinal"), (0, u "I"), (1, .class_ 14), (1, u "java/lang/Object"), (4, u "hash"), (86, .class_ 108), (1, u "java/lang/Enum$EnumDesc"), (2, .class_ 112), (0, u "java/lang/constant/Constable"), (0, .class_ 114), (0, u "java/lang/Comparable"), (0, .class_ 116), (0, u "java/io/Serializable")] 87

/-- java/lang/Enum -/
def k5 : Class := { plain "java/lang/Enum" (some 0) with
  accessFlags := 1057
  interfaces := #[2, 3, 4]
  cf := some (fileOf pool5 2 #[.nestMembers #[106]] #[] 1057 12 #[111, 113, 115] #[{ accessFlags := 18, nameIndex := 5, descriptorIndex := 6, attributes := #[] }, { accessFlags := 18, nameIndex := 9, descriptorIndex := 10, attributes := #[] }, { accessFlags := 2, nameIndex := 19, descriptorIndex := 10, attributes := #[] }])
  fields := #[{ name := "name", type := (.object "java/lang/String"), accessFlags := 18, slot := 0, constantValue := 0 }, { name := "ordinal", type := .int, accessFlags := 18, slot := 1, constantValue := 0 }, { name := "hash", type := .int, accessFlags := 2, slot := 2, constantValue := 0 }]
  methods := #[]
  instanceTypes := #[(.object "java/lang/String"), .int, .int]
  staticTypes := #[]
  resolved := Array.replicate 204 none
  statics := none }

def pool6 : Array CpInfo := pool [(1, .class_ 2), (0, u "com/example/oyster/oyster/engine/Tokens$Kind"), (2, u "NUMBER"), (0, u "Lcom/example/oyster/oyster/engine/Tokens$Kind;"), (2, u "STRING"), (2, u "NAME"), (2, u "SYMBOL"), (2, u "END"), (2, u "$VALUES"), (0, u "[Lcom/example/oyster/oyster/engine/Tokens$Kind;"), (6, .class_ 31), (1, u "java/lang/Enum"), (28, .class_ 61), (0, u "com/example/oyster/oyster/engine/Tokens")] 2

/-- com/example/oyster/oyster/engine/Tokens$Kind -/
def k6 : Class := { plain "com/example/oyster/oyster/engine/Tokens$Kind" (some 5) with
  accessFlags := 16432
  interfaces := #[]
  cf := some (fileOf pool6 1 #[.nestHost 60] #[] 16432 29 #[] #[{ accessFlags := 16409, nameIndex := 5, descriptorIndex := 6, attributes := #[] }, { accessFlags := 16409, nameIndex := 9, descriptorIndex := 6, attributes := #[] }, { accessFlags := 16409, nameIndex := 12, descriptorIndex := 6, attributes := #[] }, { accessFlags := 16409, nameIndex := 15, descriptorIndex := 6, attributes := #[] }, { accessFlags := 16409, nameIndex := 18, descriptorIndex := 6, attributes := #[] }, { accessFlags := 4122, nameIndex := 21, descriptorIndex := 22, attributes := #[] }])
  fields := #[{ name := "NUMBER", type := (.object "com/example/oyster/oyster/engine/Tokens$Kind"), accessFlags := 16409, slot := 0, constantValue := 0 }, { name := "STRING", type := (.object "com/example/oyster/oyster/engine/Tokens$Kind"), accessFlags := 16409, slot := 1, constantValue := 0 }, { name := "NAME", type := (.object "com/example/oyster/oyster/engine/Tokens$Kind"), accessFlags := 16409, slot := 2, constantValue := 0 }, { name := "SYMBOL", type := (.object "com/example/oyster/oyster/engine/Tokens$Kind"), accessFlags := 16409, slot := 3, constantValue := 0 }, { name := "END", type := (.object "com/example/oyster/oyster/engine/Tokens$Kind"), accessFlags := 16409, slot := 4, constantValue := 0 }, { name := "$VALUES", type := (.array (.object "com/example/oyster/oyster/engine/Tokens$Kind")), accessFlags := 4122, slot := 5, constantValue := 0 }]
  methods := #[]
  instanceTypes := #[(.object "java/lang/String"), .int, .int]
  staticTypes := #[(.object "com/example/oyster/oyster/engine/Tokens$Kind"), (.object "com/example/oyster/oyster/engine/Tokens$Kind"), (.object "com/example/oyster/oyster/engine/Tokens$Kind"), (.object "com/example/oyster/oyster/engine/Tokens$Kind"), (.object "com/example/oyster/oyster/engine/Tokens$Kind"), (.array (.object "com/example/oyster/oyster/engine/Tokens$Kind"))]
  resolved := Array.replicate 64 none
  statics := some 0 }

def pool7 : Array CpInfo := pool [(2, .class_ 4), (1, u "java/lang/CharSequence"), (42, .class_ 48), (0, u "java/lang/CharSequence$1CodePointIterator"), (10, .class_ 60), (0, u "java/lang/CharSequence$1CharIterator"), (5, .class_ 67), (0, u "java/lang/Object")] 63

/-- java/lang/CharSequence -/
def k7 : Class := { plain "java/lang/CharSequence" (some 0) with
  accessFlags := 1537
  interfaces := #[]
  cf := some (fileOf pool7 2 #[.nestMembers #[47, 59]] #[] 1537 66 #[] #[])
  fields := #[]
  methods := #[]
  instanceTypes := #[]
  staticTypes := #[]
  resolved := Array.replicate 131 none
  statics := none }

def pool8 : Array CpInfo := pool [(1, .class_ 2), (0, u "java/lang/constant/ConstantDesc"), (0, .class_ 4), (0, u "java/lang/Object")] 32

/-- java/lang/constant/ConstantDesc -/
def k8 : Class := { plain "java/lang/constant/ConstantDesc" (some 0) with
  accessFlags := 1537
  interfaces := #[]
  cf := some (fileOf pool8 1 #[] #[] 1537 3 #[] #[])
  fields := #[]
  methods := #[]
  instanceTypes := #[]
  staticTypes := #[]
  resolved := Array.replicate 37 none
  statics := none }

def pool9 : Array CpInfo := pool [(1, .methodref 2 3), (0, .class_ 4), (0, .nameAndType 5 6), (0, u "java/lang/Object"), (0, u "<init>"), (0, u "()V"), (0, .string 8), (0, u ""), (0, .fieldref 10 11), (0, .class_ 12), (0, .nameAndType 13 14), (0, u "java/lang/String"), (0, u "value"), (0, u "[B"), (0, .fieldref 10 16), (0, .nameAndType 17 18), (0, u "coder"), (0, u "B"), (2, u "hash"), (0, u "I"), (2, u "hashIsZero"), (0, u "Z"), (0, .methodref 10 28), (0, .nameAndType 5 29), (0, u "([CIILjava/lang/Void;)V"), (8, .fieldref 10 39), (0, .nameAndType 40 26), (0, u "COMPACT_STRINGS"), (1, .class_ 44), (1, u "java/lang/StringUTF16"), (0, u "compress"), (1, .methodref 42 48), (0, .nameAndType 49 50), (0, u "coderFromArrayLen"), (0, u "([BI)B"), (56, .class_ 109), (1, u "java/lang/StringLatin1"), (67, .methodref 42 178), (0, .nameAndType 45 179), (0, u "([CII)[B"), (361, .methodref 107 542), (0, .nameAndType 543 544), (0, u "equals"), (0, u "([B[B)Z"), (28, u "(Ljava/lang/Object;)Z"), (1, .class_ 576), (0, u "java/lang/CharSequence"), (22, u "CASE_INSENSITIVE_ORDER"), (0, u "Ljava/util/Comparator;"), (409, u "([C)V"), (90, u "serialPersistentFields"), (0, u "[Ljava/io/ObjectStreamField;"), (0, .class_ 1104), (0, u "java/lang/String$CaseInsensitiveComparator"), (1, .class_ 1107), (0, u "java/io/Serializable"), (0, .class_ 1109), (0, u "java/lang/Comparable"), (0, .class_ 1111), (0, u "java/lang/constant/Constable"), (0, .class_ 1113), (0, u "java/lang/constant/ConstantDesc"), (2, u "serialVersionUID"), (0, u "J"), (3, u "REPL"), (0, u "C"), (2, u "LATIN1"), (1, u "UTF16")] 323

def k9m0 : Method := { name := "<init>", desc := "()V", sig := { parameters := [], returnType := none }, accessFlags := 1, code := none }
def k9c1 : Code := { maxStack := 5, maxLocals := 2, code := jdk_42_method_3_code, exceptionTable := #[], attributes := #[] }
def k9m1 : Method := { name := "<init>", desc := "([C)V", sig := { parameters := [(.array .char)], returnType := none }, accessFlags := 1, code := some k9c1 }
def k9c2 : Code := { maxStack := 2, maxLocals := 3, code := jdk_42_method_66_code, exceptionTable := #[], attributes := #[] }
def k9m2 : Method := { name := "equals", desc := "(Ljava/lang/Object;)Z", sig := { parameters := [(.object "java/lang/Object")], returnType := some .boolean }, accessFlags := 1, code := some k9c2 }
def k9c3 : Code := { maxStack := 4, maxLocals := 6, code := jdk_42_method_149_code, exceptionTable := #[], attributes := #[] }
def k9m3 : Method := { name := "<init>", desc := "([CIILjava/lang/Void;)V", sig := { parameters := [(.array .char), .int, .int, (.object "java/lang/Void")], returnType := none }, accessFlags := 2, code := some k9c3 }
/-- java/lang/String -/
def k9 : Class := { plain "java/lang/String" (some 0) with
  accessFlags := 49
  interfaces := #[4, 3, 7, 2, 8]
  cf := some (fileOf pool9 10 #[.nestMembers #[1103]] #[{ accessFlags := 1, nameIndex := 5, descriptorIndex := 6, attributes := #[] }, { accessFlags := 1, nameIndex := 5, descriptorIndex := 1010, attributes := #[] }, { accessFlags := 1, nameIndex := 543, descriptorIndex := 573, attributes := #[] }, { accessFlags := 2, nameIndex := 5, descriptorIndex := 29, attributes := #[] }] 49 2 #[1106, 1108, 575, 1110, 1112] #[{ accessFlags := 18, nameIndex := 13, descriptorIndex := 14, attributes := #[] }, { accessFlags := 18, nameIndex := 17, descriptorIndex := 18, attributes := #[] }, { accessFlags := 2, nameIndex := 21, descriptorIndex := 22, attributes := #[] }, { accessFlags := 2, nameIndex := 25, descriptorIndex := 26, attributes := #[] }, { accessFlags := 26, nameIndex := 1116, descriptorIndex := 1117, attributes := #[] }, { accessFlags := 24, nameIndex := 40, descriptorIndex := 26, attributes := #[] }, { accessFlags := 26, nameIndex := 1101, descriptorIndex := 1102, attributes := #[] }, { accessFlags := 26, nameIndex := 1121, descriptorIndex := 1122, attributes := #[] }, { accessFlags := 25, nameIndex := 599, descriptorIndex := 600, attributes := #[] }, { accessFlags := 24, nameIndex := 1125, descriptorIndex := 18, attributes := #[] }, { accessFlags := 24, nameIndex := 1127, descriptorIndex := 18, attributes := #[] }])
  fields := #[{ name := "value", type := (.array .byte), accessFlags := 18, slot := 0, constantValue := 0 }, { name := "coder", type := .byte, accessFlags := 18, slot := 1, constantValue := 0 }, { name := "hash", type := .int, accessFlags := 2, slot := 2, constantValue := 0 }, { name := "hashIsZero", type := .boolean, accessFlags := 2, slot := 3, constantValue := 0 }, { name := "serialVersionUID", type := .long, accessFlags := 26, slot := 0, constantValue := 0 }, { name := "COMPACT_STRINGS", type := .boolean, accessFlags := 24, slot := 1, constantValue := 0 }, { name := "serialPersistentFields", type := (.array (.object "java/io/ObjectStreamField")), accessFlags := 26, slot := 2, constantValue := 0 }, { name := "REPL", type := .char, accessFlags := 26, slot := 3, constantValue := 0 }, { name := "CASE_INSENSITIVE_ORDER", type := (.object "java/util/Comparator"), accessFlags := 25, slot := 4, constantValue := 0 }, { name := "LATIN1", type := .byte, accessFlags := 24, slot := 5, constantValue := 0 }, { name := "UTF16", type := .byte, accessFlags := 24, slot := 6, constantValue := 0 }]
  methods := #[k9m0, k9m1, k9m2, k9m3]
  instanceTypes := #[(.array .byte), .byte, .int, .boolean]
  staticTypes := #[.long, .boolean, (.array (.object "java/io/ObjectStreamField")), .char, (.object "java/util/Comparator"), .byte, .byte]
  resolved := Array.replicate 1451 none
  statics := some 1 }

def pool10 : Array CpInfo := pool [(6, .class_ 8), (1, u "java/lang/Object"), (0, u "<init>"), (0, u "()V"), (1, .class_ 14), (1, u "java/lang/StringUTF16"), (31, u "$assertionsDisabled"), (0, u "Z"), (13, u "HI_BYTE_SHIFT"), (0, u "I"), (2, u "LO_BYTE_SHIFT"), (49, .methodref 12 116), (0, .nameAndType 117 118), (0, u "compress"), (0, u "([CI[BII)I"), (3, u "([CII)[B"), (138, u "coderFromArrayLen"), (0, u "([BI)B"), (106, .class_ 371), (1, u "java/lang/StringUTF16$LinesSpliterator"), (58, u "MAX_LENGTH"), (196, .class_ 628), (0, u "java/lang/StringUTF16$CodePointsSpliterator"), (0, .class_ 630), (0, u "java/lang/StringUTF16$CharsSpliterator")] 4

def k10m0 : Method := { name := "<init>", desc := "()V", sig := { parameters := [], returnType := none }, accessFlags := 0, code := none }
def k10c1 : Code := { maxStack := 2, maxLocals := 2, code := jdk_52_method_15_code, exceptionTable := #[], attributes := #[] }
def k10m1 : Method := { name := "coderFromArrayLen", desc := "([BI)B", sig := { parameters := [(.array .byte), .int], returnType := some .byte }, accessFlags := 8, code := some k10c1 }
def k10c2 : Code := { maxStack := 5, maxLocals := 6, code := jdk_52_method_16_code, exceptionTable := #[], attributes := #[] }
def k10m2 : Method := { name := "compress", desc := "([CII)[B", sig := { parameters := [(.array .char), .int, .int], returnType := some (.array .byte) }, accessFlags := 9, code := some k10c2 }
def k10c3 : Code := { maxStack := 3, maxLocals := 7, code := jdk_52_method_21_code, exceptionTable := #[], attributes := #[] }
def k10m3 : Method := { name := "compress", desc := "([CI[BII)I", sig := { parameters := [(.array .char), .int, (.array .byte), .int, .int], returnType := some .int }, accessFlags := 9, code := some k10c3 }
/-- java/lang/StringUTF16 -/
def k10 : Class := { plain "java/lang/StringUTF16" (some 0) with
  accessFlags := 48
  interfaces := #[]
  cf := some (fileOf pool10 12 #[.nestMembers #[627, 629, 369]] #[{ accessFlags := 0, nameIndex := 9, descriptorIndex := 10, attributes := #[] }, { accessFlags := 8, nameIndex := 261, descriptorIndex := 262, attributes := #[] }, { accessFlags := 9, nameIndex := 117, descriptorIndex := 122, attributes := #[] }, { accessFlags := 9, nameIndex := 117, descriptorIndex := 118, attributes := #[] }] 48 6 #[] #[{ accessFlags := 26, nameIndex := 61, descriptorIndex := 62, attributes := #[] }, { accessFlags := 26, nameIndex := 65, descriptorIndex := 62, attributes := #[] }, { accessFlags := 24, nameIndex := 430, descriptorIndex := 62, attributes := #[] }, { accessFlags := 4120, nameIndex := 46, descriptorIndex := 47, attributes := #[] }])
  fields := #[{ name := "HI_BYTE_SHIFT", type := .int, accessFlags := 26, slot := 0, constantValue := 0 }, { name := "LO_BYTE_SHIFT", type := .int, accessFlags := 26, slot := 1, constantValue := 0 }, { name := "MAX_LENGTH", type := .int, accessFlags := 24, slot := 2, constantValue := 0 }, { name := "$assertionsDisabled", type := .boolean, accessFlags := 4120, slot := 3, constantValue := 0 }]
  methods := #[k10m0, k10m1, k10m2, k10m3]
  instanceTypes := #[]
  staticTypes := #[.int, .int, .int, .boolean]
  resolved := Array.replicate 635 none
  statics := none }

def pool11 : Array CpInfo := pool [(1, .methodref 2 3), (0, .class_ 4), (0, .nameAndType 5 6), (0, u "java/lang/Object"), (0, u "<init>"), (0, u "()V"), (0, .class_ 8), (0, u "java/lang/Record")] 13

def k11c0 : Code := { maxStack := 1, maxLocals := 1, code := jdk_30_method_1_code, exceptionTable := #[], attributes := #[] }
def k11m0 : Method := { name := "<init>", desc := "()V", sig := { parameters := [], returnType := none }, accessFlags := 4, code := some k11c0 }
/-- java/lang/Record -/
def k11 : Class := { plain "java/lang/Record" (some 0) with
  accessFlags := 1057
  interfaces := #[]
  cf := some (fileOf pool11 7 #[] #[{ accessFlags := 4, nameIndex := 5, descriptorIndex := 6, attributes := #[] }] 1057 2 #[] #[])
  fields := #[]
  methods := #[k11m0]
  instanceTypes := #[]
  staticTypes := #[]
  resolved := Array.replicate 22 none
  statics := none }

def pool12 : Array CpInfo := pool [(1, .methodref 2 3), (0, .class_ 4), (0, .nameAndType 5 6), (0, u "java/lang/Record"), (0, u "<init>"), (0, u "()V"), (0, .fieldref 8 9), (0, .class_ 10), (0, .nameAndType 11 12), (0, u "com/example/oyster/oyster/engine/Tokens$Token"), (0, u "kind"), (0, u "Lcom/example/oyster/oyster/engine/Tokens$Kind;"), (0, .fieldref 8 14), (0, .nameAndType 15 16), (0, u "text"), (0, u "Ljava/lang/String;"), (0, .fieldref 8 18), (0, .nameAndType 19 20), (0, u "column"), (0, u "I"), (0, .fieldref 22 23), (0, .class_ 24), (0, .nameAndType 25 12), (0, u "com/example/oyster/oyster/engine/Tokens$Kind"), (0, u "SYMBOL"), (0, .methodref 27 28), (0, .class_ 29), (0, .nameAndType 30 31), (0, u "java/lang/String"), (0, u "equals"), (0, u "(Ljava/lang/Object;)Z"), (11, u "(Lcom/example/oyster/oyster/engine/Tokens$Kind;Ljava/lang/String;I)V"), (3, u "isSymbol"), (0, u "(Ljava/lang/String;)Z"), (7, .class_ 57), (0, u "com/example/oyster/oyster/engine/Tokens")] 22

def k12c0 : Code := { maxStack := 2, maxLocals := 4, code := prog_20_method_1_code, exceptionTable := #[], attributes := #[] }
def k12m0 : Method := { name := "<init>", desc := "(Lcom/example/oyster/oyster/engine/Tokens$Kind;Ljava/lang/String;I)V", sig := { parameters := [(.object "com/example/oyster/oyster/engine/Tokens$Kind"), (.object "java/lang/String"), .int], returnType := none }, accessFlags := 0, code := some k12c0 }
def k12c1 : Code := { maxStack := 2, maxLocals := 2, code := prog_20_method_2_code, exceptionTable := #[], attributes := #[] }
def k12m1 : Method := { name := "isSymbol", desc := "(Ljava/lang/String;)Z", sig := { parameters := [(.object "java/lang/String")], returnType := some .boolean }, accessFlags := 0, code := some k12c1 }
/-- com/example/oyster/oyster/engine/Tokens$Token -/
def k12 : Class := { plain "com/example/oyster/oyster/engine/Tokens$Token" (some 11) with
  accessFlags := 48
  interfaces := #[]
  cf := some (fileOf pool12 8 #[.nestHost 56] #[{ accessFlags := 0, nameIndex := 5, descriptorIndex := 43, attributes := #[] }, { accessFlags := 0, nameIndex := 47, descriptorIndex := 48, attributes := #[] }] 48 2 #[] #[{ accessFlags := 18, nameIndex := 11, descriptorIndex := 12, attributes := #[] }, { accessFlags := 18, nameIndex := 15, descriptorIndex := 16, attributes := #[] }, { accessFlags := 18, nameIndex := 19, descriptorIndex := 20, attributes := #[] }])
  fields := #[{ name := "kind", type := (.object "com/example/oyster/oyster/engine/Tokens$Kind"), accessFlags := 18, slot := 0, constantValue := 0 }, { name := "text", type := (.object "java/lang/String"), accessFlags := 18, slot := 1, constantValue := 0 }, { name := "column", type := .int, accessFlags := 18, slot := 2, constantValue := 0 }]
  methods := #[k12m0, k12m1]
  instanceTypes := #[(.object "com/example/oyster/oyster/engine/Tokens$Kind"), (.object "java/lang/String"), .int]
  staticTypes := #[]
  resolved := Array.replicate 80 none
  statics := none }

def pool13 : Array CpInfo := pool [(4, .class_ 6), (1, u "java/lang/Object"), (0, u "<init>"), (0, u "()V"), (5, .class_ 16), (1, u "java/lang/StringLatin1"), (104, u "$assertionsDisabled"), (0, u "Z"), (98, .class_ 223), (1, u "java/lang/StringLatin1$LinesSpliterator"), (57, u "equals"), (0, u "([B[B)Z"), (107, .class_ 391), (0, u "java/lang/StringLatin1$CharsSpliterator")] 3

def k13m0 : Method := { name := "<init>", desc := "()V", sig := { parameters := [], returnType := none }, accessFlags := 0, code := none }
def k13c1 : Code := { maxStack := 3, maxLocals := 3, code := jdk_43_method_13_code, exceptionTable := #[], attributes := #[] }
def k13m1 : Method := { name := "equals", desc := "([B[B)Z", sig := { parameters := [(.array .byte), (.array .byte)], returnType := some .boolean }, accessFlags := 9, code := some k13c1 }
/-- java/lang/StringLatin1 -/
def k13 : Class := { plain "java/lang/StringLatin1" (some 0) with
  accessFlags := 48
  interfaces := #[]
  cf := some (fileOf pool13 14 #[.nestMembers #[390, 221]] #[{ accessFlags := 0, nameIndex := 7, descriptorIndex := 8, attributes := #[] }, { accessFlags := 9, nameIndex := 281, descriptorIndex := 282, attributes := #[] }] 48 4 #[] #[{ accessFlags := 4120, nameIndex := 121, descriptorIndex := 122, attributes := #[] }])
  fields := #[{ name := "$assertionsDisabled", type := .boolean, accessFlags := 4120, slot := 0, constantValue := 0 }]
  methods := #[k13m0, k13m1]
  instanceTypes := #[]
  staticTypes := #[.boolean]
  resolved := Array.replicate 395 none
  statics := none }

def pool14 : Array CpInfo := pool [(2, .class_ 4), (1, u "java/lang/Object"), (0, u "<init>"), (0, u "()V"), (17, .class_ 26), (1, u "jdk/internal/util/Preconditions"), (28, .class_ 56), (0, u "jdk/internal/util/Preconditions$4"), (57, .class_ 115), (0, u "jdk/internal/util/Preconditions$1"), (7, u "SIOOBE_FORMATTER"), (0, u "Ljava/util/function/BiFunction;"), (0, .class_ 126), (0, u "jdk/internal/util/Preconditions$2"), (3, u "AIOOBE_FORMATTER"), (0, .class_ 132), (0, u "jdk/internal/util/Preconditions$3"), (3, u "IOOBE_FORMATTER")] 57

def k14m0 : Method := { name := "<init>", desc := "()V", sig := { parameters := [], returnType := none }, accessFlags := 1, code := none }
/-- jdk/internal/util/Preconditions -/
def k14 : Class := { plain "jdk/internal/util/Preconditions" (some 0) with
  accessFlags := 33
  interfaces := #[]
  cf := some (fileOf pool14 24 #[.nestMembers #[55, 131, 125, 114]] #[{ accessFlags := 1, nameIndex := 5, descriptorIndex := 6, attributes := #[] }] 33 2 #[] #[{ accessFlags := 25, nameIndex := 123, descriptorIndex := 124, attributes := #[] }, { accessFlags := 25, nameIndex := 130, descriptorIndex := 124, attributes := #[] }, { accessFlags := 25, nameIndex := 136, descriptorIndex := 124, attributes := #[] }])
  fields := #[{ name := "SIOOBE_FORMATTER", type := (.object "java/util/function/BiFunction"), accessFlags := 25, slot := 0, constantValue := 0 }, { name := "AIOOBE_FORMATTER", type := (.object "java/util/function/BiFunction"), accessFlags := 25, slot := 1, constantValue := 0 }, { name := "IOOBE_FORMATTER", type := (.object "java/util/function/BiFunction"), accessFlags := 25, slot := 2, constantValue := 0 }]
  methods := #[k14m0]
  instanceTypes := #[]
  staticTypes := #[(.object "java/util/function/BiFunction"), (.object "java/util/function/BiFunction"), (.object "java/util/function/BiFunction")]
  resolved := Array.replicate 194 none
  statics := some 2 }

def pool15 : Array CpInfo := pool [(9, u "<init>"), (6, .class_ 18), (1, u "java/lang/Object"), (0, u "()V"), (1, .class_ 23), (1, u "jdk/internal/util/ArraysSupport"), (0, u "LOG2_ARRAY_LONG_INDEX_SCALE"), (0, u "I"), (2, u "U"), (0, u "Ljdk/internal/misc/Unsafe;"), (8, u "BIG_ENDIAN"), (0, u "Z"), (8, u "LOG2_BYTE_BIT_SIZE"), (4, u "LOG2_ARRAY_INT_INDEX_SCALE"), (54, u "JLA"), (0, u "Ljdk/internal/access/JavaLangAccess;"), (11, u "LOG2_ARRAY_BOOLEAN_INDEX_SCALE"), (9, u "LOG2_ARRAY_BYTE_INDEX_SCALE"), (5, u "LOG2_ARRAY_CHAR_INDEX_SCALE"), (5, u "LOG2_ARRAY_SHORT_INDEX_SCALE"), (18, u "LOG2_ARRAY_FLOAT_INDEX_SCALE"), (24, u "LOG2_ARRAY_DOUBLE_INDEX_SCALE"), (89, u "T_BOOLEAN"), (2, u "T_CHAR"), (1, u "T_FLOAT"), (1, u "T_DOUBLE"), (1, u "T_BYTE"), (1, u "T_SHORT"), (1, u "T_INT"), (1, u "T_LONG"), (1, u "SOFT_MAX_ARRAY_LENGTH")] 83

def k15m0 : Method := { name := "<init>", desc := "()V", sig := { parameters := [], returnType := none }, accessFlags := 2, code := none }
/-- jdk/internal/util/ArraysSupport -/
def k15 : Class := { plain "jdk/internal/util/ArraysSupport" (some 0) with
  accessFlags := 33
  interfaces := #[]
  cf := some (fileOf pool15 21 #[] #[{ accessFlags := 2, nameIndex := 9, descriptorIndex := 19, attributes := #[] }] 33 16 #[] #[{ accessFlags := 24, nameIndex := 28, descriptorIndex := 29, attributes := #[] }, { accessFlags := 26, nameIndex := 38, descriptorIndex := 39, attributes := #[] }, { accessFlags := 25, nameIndex := 121, descriptorIndex := 25, attributes := #[] }, { accessFlags := 25, nameIndex := 131, descriptorIndex := 25, attributes := #[] }, { accessFlags := 25, nameIndex := 137, descriptorIndex := 25, attributes := #[] }, { accessFlags := 25, nameIndex := 143, descriptorIndex := 25, attributes := #[] }, { accessFlags := 25, nameIndex := 53, descriptorIndex := 25, attributes := #[] }, { accessFlags := 25, nameIndex := 24, descriptorIndex := 25, attributes := #[] }, { accessFlags := 25, nameIndex := 162, descriptorIndex := 25, attributes := #[] }, { accessFlags := 25, nameIndex := 187, descriptorIndex := 25, attributes := #[] }, { accessFlags := 26, nameIndex := 48, descriptorIndex := 25, attributes := #[] }, { accessFlags := 25, nameIndex := 277, descriptorIndex := 25, attributes := #[] }, { accessFlags := 25, nameIndex := 280, descriptorIndex := 25, attributes := #[] }, { accessFlags := 25, nameIndex := 282, descriptorIndex := 25, attributes := #[] }, { accessFlags := 25, nameIndex := 284, descriptorIndex := 25, attributes := #[] }, { accessFlags := 25, nameIndex := 286, descriptorIndex := 25, attributes := #[] }, { accessFlags := 25, nameIndex := 288, descriptorIndex := 25, attributes := #[] }, { accessFlags := 25, nameIndex := 290, descriptorIndex := 25, attributes := #[] }, { accessFlags := 25, nameIndex := 292, descriptorIndex := 25, attributes := #[] }, { accessFlags := 26, nameIndex := 108, descriptorIndex := 109, attributes := #[] }, { accessFlags := 25, nameIndex := 294, descriptorIndex := 25, attributes := #[] }])
  fields := #[{ name := "U", type := (.object "jdk/internal/misc/Unsafe"), accessFlags := 24, slot := 0, constantValue := 0 }, { name := "BIG_ENDIAN", type := .boolean, accessFlags := 26, slot := 1, constantValue := 0 }, { name := "LOG2_ARRAY_BOOLEAN_INDEX_SCALE", type := .int, accessFlags := 25, slot := 2, constantValue := 0 }, { name := "LOG2_ARRAY_BYTE_INDEX_SCALE", type := .int, accessFlags := 25, slot := 3, constantValue := 0 }, { name := "LOG2_ARRAY_CHAR_INDEX_SCALE", type := .int, accessFlags := 25, slot := 4, constantValue := 0 }, { name := "LOG2_ARRAY_SHORT_INDEX_SCALE", type := .int, accessFlags := 25, slot := 5, constantValue := 0 }, { name := "LOG2_ARRAY_INT_INDEX_SCALE", type := .int, accessFlags := 25, slot := 6, constantValue := 0 }, { name := "LOG2_ARRAY_LONG_INDEX_SCALE", type := .int, accessFlags := 25, slot := 7, constantValue := 0 }, { name := "LOG2_ARRAY_FLOAT_INDEX_SCALE", type := .int, accessFlags := 25, slot := 8, constantValue := 0 }, { name := "LOG2_ARRAY_DOUBLE_INDEX_SCALE", type := .int, accessFlags := 25, slot := 9, constantValue := 0 }, { name := "LOG2_BYTE_BIT_SIZE", type := .int, accessFlags := 26, slot := 10, constantValue := 0 }, { name := "T_BOOLEAN", type := .int, accessFlags := 25, slot := 11, constantValue := 0 }, { name := "T_CHAR", type := .int, accessFlags := 25, slot := 12, constantValue := 0 }, { name := "T_FLOAT", type := .int, accessFlags := 25, slot := 13, constantValue := 0 }, { name := "T_DOUBLE", type := .int, accessFlags := 25, slot := 14, constantValue := 0 }, { name := "T_BYTE", type := .int, accessFlags := 25, slot := 15, constantValue := 0 }, { name := "T_SHORT", type := .int, accessFlags := 25, slot := 16, constantValue := 0 }, { name := "T_INT", type := .int, accessFlags := 25, slot := 17, constantValue := 0 }, { name := "T_LONG", type := .int, accessFlags := 25, slot := 18, constantValue := 0 }, { name := "JLA", type := (.object "jdk/internal/access/JavaLangAccess"), accessFlags := 26, slot := 19, constantValue := 0 }, { name := "SOFT_MAX_ARRAY_LENGTH", type := .int, accessFlags := 25, slot := 20, constantValue := 0 }]
  methods := #[k15m0]
  instanceTypes := #[]
  staticTypes := #[(.object "jdk/internal/misc/Unsafe"), .boolean, .int, .int, .int, .int, .int, .int, .int, .int, .int, .int, .int, .int, .int, .int, .int, .int, .int, (.object "jdk/internal/access/JavaLangAccess"), .int]
  resolved := Array.replicate 378 none
  statics := none }

def pool16 : Array CpInfo := pool [(1, u "java/lang/Cloneable"), (0, .class_ 1), (0, u "java/lang/Object"), (0, .class_ 3)] 3

/-- java/lang/Cloneable -/
def k16 : Class := { plain "java/lang/Cloneable" (some 0) with
  accessFlags := 1537
  interfaces := #[]
  cf := some (fileOf pool16 2 #[] #[] 1537 4 #[] #[])
  fields := #[]
  methods := #[]
  instanceTypes := #[]
  staticTypes := #[]
  resolved := Array.replicate 8 none
  statics := none }

/-- the primitive byte -/
def k17 : Class := { plain "byte" none with kind := .primitive 'B', accessFlags := 0x411 }
/-- [B -/
def k18 : Class := { plain "[B" (some 0) with kind := .array 17 .byte, interfaces := #[16, 4], accessFlags := 1041 }

/-- the primitive char -/
def k19 : Class := { plain "char" none with kind := .primitive 'C', accessFlags := 0x411 }
/-- [C -/
def k20 : Class := { plain "[C" (some 0) with kind := .array 19 .char, interfaces := #[16, 4], accessFlags := 1041 }

/-- the primitive int -/
def k21 : Class := { plain "int" none with kind := .primitive 'I', accessFlags := 0x411 }
/-- [I -/
def k22 : Class := { plain "[I" (some 0) with kind := .array 21 .int, interfaces := #[16, 4], accessFlags := 1041 }

def heap : Heap := #[{ cls := 6, slots := #[.ref 3, .ref 4, .ref 5, .ref 6, .ref 7, .null], vm := .statics 6 },
  { cls := 9, slots := #[.long 0, .int 1, .null, .int 0, .null, .int 0, .int 0], vm := .statics 9 },
  { cls := 14, slots := #[.null, .null, .null], vm := .statics 14 },
  { cls := 6, slots := #[.null, .int 0, .int 0], vm := .none },
  { cls := 6, slots := #[.null, .int 1, .int 0], vm := .none },
  { cls := 6, slots := #[.null, .int 2, .int 0], vm := .none },
  { cls := 6, slots := #[.null, .int 3, .int 0], vm := .none },
  { cls := 6, slots := #[.null, .int 4, .int 0], vm := .none }]
def classes : Array Class := #[k0, k1, k2, k3, k4, k5, k6, k7, k8, k9, k10, k11, k12, k13, k14, k15, k16, k17, k18, k19, k20, k21, k22]
def interned : List (Array UInt16 × Addr) := []
def slotsUsed : Nat := 31
def theMethod : MethodId := ⟨1, 2⟩
def args0 : Array Value := #[.int 5, .int 6, .int 7, .int 8]
def aboutOver (below : List Frame) : State where
  vm := { classes := classes, interned := interned.toArray }
  heap := heap
  slotsUsed := slotsUsed
  threads := #[{ frames := .invoking theMethod args0 :: below }]
def below0 : List Frame := [.native { method := ⟨0, 0⟩, args := #[] }]
def about1 : State := aboutOver below0
def p0 : Program := .bare "" "" ""
def e0 : Env := launch0.env 0 0 0
theorem w_frames : about1.frames = Frame.invoking theMethod args0 :: below0 := rfl
set_option maxRecDepth 65536 in
theorem w_args : argsFit about1.vm theMethod args0 = true := by decide +kernel
set_option maxRecDepth 65536 in
theorem w_heap : heapFits about1 = true := by decide +kernel
set_option maxRecDepth 65536 in
theorem w_runnable : about1.curStatus? = some .runnable := by decide +kernel
set_option maxRecDepth 65536 in
theorem w_alone : about1.alone = true := by decide +kernel
set_option maxRecDepth 65536 in
theorem w_named : about1.methodNamed? x = some theMethod := by decide +kernel
set_option maxRecDepth 65536 in
theorem w_hears : about1.hears theMethod below0 = true := by decide +kernel
set_option maxRecDepth 65536 in
theorem w_ripe : about1.ripe theMethod args0 below0 = true := by decide +kernel
theorem w_running : about1.status = .running := rfl
set_option maxRecDepth 65536 in
theorem w_room : about1.hasRoom e0.platform room_1 = true :=
  launch0.hasRoom_least _ room_1 (by decide +kernel) (by decide +kernel) (by decide +kernel) (by decide +kernel) (by decide +kernel) (by decide +kernel)
theorem allAtoms_all (ts : List Jvm.Cond) (a : Array Jvm.Value) (st : Jvm.State) : (allAtoms ts).before a st = ts.all (fun c => c.before a st) := by
  induction ts with
  | nil => rfl
  | cons c t ih =>
    show (Jvm.Cond.and c (allAtoms t)).before a st = _
    rw [Jvm.Cond.before_and, ih, List.all_cons]
def words1 : List Jvm.Cond := Jvm.Cond.code x code maxLocals ret :: tables_1
/-- a 'code' word, met by the world's own term for the bytes: nothing is compared byte by byte -/
theorem code_word {y : MethodName} {bytes : ByteArray} {mx : Nat} {rt : Option FieldType} {a : Array Value} {s : State} {m : MethodId} {meth : Method} {c : Code} (h1 : s.methodNamed? y = some m) (h2 : s.vm.method? m = some meth) (h3 : meth.code = some c) (h4 : c.code = bytes)
    (h5 : (c.maxLocals == mx && c.exceptionTable.isEmpty && decide (c.maxStack ≤ mostOperands) && decide (meth.sig.returnType = rt) && !meth.locks && decide (parseMethodDescriptor y.desc = some meth.sig)) = true) : (Jvm.Cond.code y bytes mx rt).before a s = true := by
  simp only [Bool.and_eq_true, beq_iff_eq, Bool.not_eq_true', decide_eq_true_eq] at h5
  obtain ⟨⟨⟨⟨⟨g1, g2⟩, g3⟩, g4⟩, g5⟩, g6⟩ := h5
  simp [Cond.before, Cond.holds, Cond.value, h1, h2, h3, h4, g1, g2, g3, g4, g5, g6]
def isCode : Jvm.Cond → Bool
  | .code _ _ _ _ => true
  | _ => false
theorem all_split {L : List Jvm.Cond} {P : Jvm.Cond → Bool} (h1 : L.all (fun c => isCode c || P c) = true) (h2 : ∀ c ∈ L.filter isCode, P c = true) : L.all P = true := by
  refine List.all_eq_true.mpr fun c hc => ?_
  have h := List.all_eq_true.mp h1 c hc
  rcases Bool.eq_false_or_eq_true (isCode c) with hi | hi
  · exact h2 c (List.mem_filter.mpr ⟨hc, hi⟩)
  · simpa [hi] using h
set_option maxRecDepth 65536 in
theorem w_c0 : (Jvm.Cond.code x code maxLocals ret).before args0 about1 = true := code_word (m := ⟨1, 2⟩) (meth := k1m2) (c := k1c2) (by decide +kernel) rfl rfl rfl (by decide +kernel)
set_option maxRecDepth 65536 in
theorem w_c1 : (Jvm.Cond.code ({ cls := "com/example/oyster/oyster/engine/TokenIsSymbolPinLaw", name := "make", desc := "(ICCC)Ljava/lang/String;" } : Jvm.MethodName) method_2_code (4 : Nat) (Option.some (Jvm.ClassFile.FieldType.object "java/lang/String"))).before args0 about1 = true := code_word (m := ⟨1, 1⟩) (meth := k1m1) (c := k1c1) (by decide +kernel) rfl rfl rfl (by decide +kernel)
set_option maxRecDepth 65536 in
theorem w_c2 : (Jvm.Cond.code ({ cls := "java/lang/String", name := "<init>", desc := "([C)V" } : Jvm.MethodName) jdk_42_method_3_code (2 : Nat) (Option.none : Option Jvm.ClassFile.FieldType)).before args0 about1 = true := code_word (m := ⟨9, 1⟩) (meth := k9m1) (c := k9c1) (by decide +kernel) rfl rfl rfl (by decide +kernel)
set_option maxRecDepth 65536 in
theorem w_c3 : (Jvm.Cond.code ({ cls := "java/lang/String", name := "<init>", desc := "([CIILjava/lang/Void;)V" } : Jvm.MethodName) jdk_42_method_149_code (6 : Nat) (Option.none : Option Jvm.ClassFile.FieldType)).before args0 about1 = true := code_word (m := ⟨9, 3⟩) (meth := k9m3) (c := k9c3) (by decide +kernel) rfl rfl rfl (by decide +kernel)
set_option maxRecDepth 65536 in
theorem w_c4 : (Jvm.Cond.code ({ cls := "java/lang/Object", name := "<init>", desc := "()V" } : Jvm.MethodName) object_method_1_code (1 : Nat) (Option.none : Option Jvm.ClassFile.FieldType)).before args0 about1 = true := code_word (m := ⟨0, 0⟩) (meth := k0m0) (c := k0c0) (by decide +kernel) rfl rfl rfl (by decide +kernel)
set_option maxRecDepth 65536 in
theorem w_c5 : (Jvm.Cond.code ({ cls := "java/lang/StringUTF16", name := "compress", desc := "([CII)[B" } : Jvm.MethodName) jdk_52_method_16_code (6 : Nat) (Option.some (Jvm.ClassFile.FieldType.array Jvm.ClassFile.FieldType.byte))).before args0 about1 = true := code_word (m := ⟨10, 2⟩) (meth := k10m2) (c := k10c2) (by decide +kernel) rfl rfl rfl (by decide +kernel)
set_option maxRecDepth 65536 in
theorem w_c6 : (Jvm.Cond.code ({ cls := "java/lang/StringUTF16", name := "compress", desc := "([CI[BII)I" } : Jvm.MethodName) jdk_52_method_21_code (7 : Nat) (Option.some Jvm.ClassFile.FieldType.int)).before args0 about1 = true := code_word (m := ⟨10, 3⟩) (meth := k10m3) (c := k10c3) (by decide +kernel) rfl rfl rfl (by decide +kernel)
set_option maxRecDepth 65536 in
theorem w_c7 : (Jvm.Cond.code ({ cls := "java/lang/StringUTF16", name := "coderFromArrayLen", desc := "([BI)B" } : Jvm.MethodName) jdk_52_method_15_code (2 : Nat) (Option.some Jvm.ClassFile.FieldType.byte)).before args0 about1 = true := code_word (m := ⟨10, 1⟩) (meth := k10m1) (c := k10c1) (by decide +kernel) rfl rfl rfl (by decide +kernel)
set_option maxRecDepth 65536 in
theorem w_c8 : (Jvm.Cond.code ({ cls := "com/example/oyster/oyster/engine/Tokens$Token", name := "<init>", desc := "(Lcom/example/oyster/oyster/engine/Tokens$Kind;Ljava/lang/String;I)V" } : Jvm.MethodName) prog_20_method_1_code (4 : Nat) (Option.none : Option Jvm.ClassFile.FieldType)).before args0 about1 = true := code_word (m := ⟨12, 0⟩) (meth := k12m0) (c := k12c0) (by decide +kernel) rfl rfl rfl (by decide +kernel)
set_option maxRecDepth 65536 in
theorem w_c9 : (Jvm.Cond.code ({ cls := "java/lang/Record", name := "<init>", desc := "()V" } : Jvm.MethodName) jdk_30_method_1_code (1 : Nat) (Option.none : Option Jvm.ClassFile.FieldType)).before args0 about1 = true := code_word (m := ⟨11, 0⟩) (meth := k11m0) (c := k11c0) (by decide +kernel) rfl rfl rfl (by decide +kernel)
set_option maxRecDepth 65536 in
theorem w_c10 : (Jvm.Cond.code ({ cls := "com/example/oyster/oyster/engine/Tokens$Token", name := "isSymbol", desc := "(Ljava/lang/String;)Z" } : Jvm.MethodName) prog_20_method_2_code (2 : Nat) (Option.some Jvm.ClassFile.FieldType.boolean)).before args0 about1 = true := code_word (m := ⟨12, 1⟩) (meth := k12m1) (c := k12c1) (by decide +kernel) rfl rfl rfl (by decide +kernel)
set_option maxRecDepth 65536 in
theorem w_c11 : (Jvm.Cond.code ({ cls := "java/lang/String", name := "equals", desc := "(Ljava/lang/Object;)Z" } : Jvm.MethodName) jdk_42_method_66_code (3 : Nat) (Option.some Jvm.ClassFile.FieldType.boolean)).before args0 about1 = true := code_word (m := ⟨9, 2⟩) (meth := k9m2) (c := k9c2) (by decide +kernel) rfl rfl rfl (by decide +kernel)
set_option maxRecDepth 65536 in
theorem w_c12 : (Jvm.Cond.code ({ cls := "java/lang/StringLatin1", name := "equals", desc := "([B[B)Z" } : Jvm.MethodName) jdk_43_method_13_code (3 : Nat) (Option.some Jvm.ClassFile.FieldType.boolean)).before args0 about1 = true := code_word (m := ⟨13, 1⟩) (meth := k13m1) (c := k13c1) (by decide +kernel) rfl rfl rfl (by decide +kernel)
def codes1 : List Jvm.Cond := [Jvm.Cond.code x code maxLocals ret, Jvm.Cond.code ({ cls := "com/example/oyster/oyster/engine/TokenIsSymbolPinLaw", name := "make", desc := "(ICCC)Ljava/lang/String;" } : Jvm.MethodName) method_2_code (4 : Nat) (Option.some (Jvm.ClassFile.FieldType.object "java/lang/String")), Jvm.Cond.code ({ cls := "java/lang/String", name := "<init>", desc := "([C)V" } : Jvm.MethodName) jdk_42_method_3_code (2 : Nat) (Option.none : Option Jvm.ClassFile.FieldType), Jvm.Cond.code ({ cls := "java/lang/String", name := "<init>", desc := "([CIILjava/lang/Void;)V" } : Jvm.MethodName) jdk_42_method_149_code (6 : Nat) (Option.none : Option Jvm.ClassFile.FieldType), Jvm.Cond.code ({ cls := "java/lang/Object", name := "<init>", desc := "()V" } : Jvm.MethodName) object_method_1_code (1 : Nat) (Option.none : Option Jvm.ClassFile.FieldType), Jvm.Cond.code ({ cls := "java/lang/StringUTF16", name := "compress", desc := "([CII)[B" } : Jvm.MethodName) jdk_52_method_16_code (6 : Nat) (Option.some (Jvm.ClassFile.FieldType.array Jvm.ClassFile.FieldType.byte)), Jvm.Cond.code ({ cls := "java/lang/StringUTF16", name := "compress", desc := "([CI[BII)I" } : Jvm.MethodName) jdk_52_method_21_code (7 : Nat) (Option.some Jvm.ClassFile.FieldType.int), Jvm.Cond.code ({ cls := "java/lang/StringUTF16", name := "coderFromArrayLen", desc := "([BI)B" } : Jvm.MethodName) jdk_52_method_15_code (2 : Nat) (Option.some Jvm.ClassFile.FieldType.byte), Jvm.Cond.code ({ cls := "com/example/oyster/oyster/engine/Tokens$Token", name := "<init>", desc := "(Lcom/example/oyster/oyster/engine/Tokens$Kind;Ljava/lang/String;I)V" } : Jvm.MethodName) prog_20_method_1_code (4 : Nat) (Option.none : Option Jvm.ClassFile.FieldType), Jvm.Cond.code ({ cls := "java/lang/Record", name := "<init>", desc := "()V" } : Jvm.MethodName) jdk_30_method_1_code (1 : Nat) (Option.none : Option Jvm.ClassFile.FieldType), Jvm.Cond.code ({ cls := "com/example/oyster/oyster/engine/Tokens$Token", name := "isSymbol", desc := "(Ljava/lang/String;)Z" } : Jvm.MethodName) prog_20_method_2_code (2 : Nat) (Option.some Jvm.ClassFile.FieldType.boolean), Jvm.Cond.code ({ cls := "java/lang/String", name := "equals", desc := "(Ljava/lang/Object;)Z" } : Jvm.MethodName) jdk_42_method_66_code (3 : Nat) (Option.some Jvm.ClassFile.FieldType.boolean), Jvm.Cond.code ({ cls := "java/lang/StringLatin1", name := "equals", desc := "([B[B)Z" } : Jvm.MethodName) jdk_43_method_13_code (3 : Nat) (Option.some Jvm.ClassFile.FieldType.boolean)]
set_option maxRecDepth 65536 in
theorem codes_eq : words1.filter isCode = codes1 := rfl
theorem w_codes : ∀ c ∈ words1.filter isCode, c.before args0 about1 = true := by
  rw [codes_eq]
  intro c hc
  simp only [codes1, List.mem_cons, List.not_mem_nil, or_false] at hc
  rcases hc with rfl | rfl | rfl | rfl | rfl | rfl | rfl | rfl | rfl | rfl | rfl | rfl | rfl
  · exact w_c0
  · exact w_c1
  · exact w_c2
  · exact w_c3
  · exact w_c4
  · exact w_c5
  · exact w_c6
  · exact w_c7
  · exact w_c8
  · exact w_c9
  · exact w_c10
  · exact w_c11
  · exact w_c12
set_option maxRecDepth 65536 in
theorem w_t1 : (words1.take 24).all (fun c => isCode c || c.before args0 about1) = true := by decide +kernel
set_option maxRecDepth 65536 in
theorem w_t2 : ((words1.drop 24).take 24).all (fun c => isCode c || c.before args0 about1) = true := by decide +kernel
set_option maxRecDepth 65536 in
theorem w_t3 : (((words1.drop 24).drop 24).take 24).all (fun c => isCode c || c.before args0 about1) = true := by decide +kernel
set_option maxRecDepth 65536 in
theorem w_t4 : (((words1.drop 24).drop 24).drop 24).all (fun c => isCode c || c.before args0 about1) = true := by decide +kernel
theorem w_tables : (allAtoms (Jvm.Cond.code x code maxLocals ret :: tables_1)).before args0 about1 = true := by
  rw [allAtoms_all]
  show words1.all (fun c => c.before args0 about1) = true
  refine all_split ?_ w_codes
  rw [← List.take_append_drop 24 words1, List.all_append, w_t1, ← List.take_append_drop 24 (words1.drop 24), List.all_append, w_t2, ← List.take_append_drop 24 ((words1.drop 24).drop 24), List.all_append, w_t3, w_t4]
  rfl
set_option maxRecDepth 65536 in
theorem w_rest : rest_1_c.before args0 about1 = true := by decide +kernel
set_option maxRecDepth 65536 in
theorem w_case : (Jvm.Cond.and given_1 narrow_1).before args0 about1 = true := by decide +kernel
set_option maxRecDepth 65536 in
theorem w_consts : constsHeld consts_1 about1 := Jvm.Lit.constsHeldB_iff.mp (by decide +kernel)
theorem w_applies : (headSpec (Jvm.Cond.code x code maxLocals ret :: tables_1) room_1).applies x e0.platform about1 = true :=
  (Spec.applies_iff w_frames).mpr ⟨w_running, w_runnable, w_alone, w_named, w_hears, w_ripe, w_room, w_tables⟩
theorem atStart : AtStart classFile x code maxLocals ret World_1 tables_1 room_1 Calls_1 rest_1 Pre_1 launch0 p0 e0 about1 theMethod args0 below0 :=
  ⟨lists_1, trivial, launch0.admits_env _ _ _, launch0.least_env, fairChoices_fair.cas, fairChoices_fair.clock, w_frames, w_args, w_heap, w_applies, ⟨w_consts, trivial⟩, w_rest, w_case⟩
end start1
theorem witness_1 : WitnessClaimed_1 := ⟨start1.p0, start1.e0, start1.about1, start1.theMethod, start1.args0, start1.below0, start1.atStart⟩
end Jvm.Pilot.@@N@@
