import JvmDerived
import JvmDerived.Pilot.@@N@@Statement
import JvmDerived.Pilot.@@N@@Code
set_option linter.unusedVariables false
set_option linter.unusedSimpArgs false
namespace Jvm.RoadKit
open Sem ClassFile Op Lib Jvm.Stand Jvm.Free Jvm.LawKit
section New
variable {p : Program} {l : Launch} {e : Env} {R : Room} {s : State} {m : MethodId} {args : Array Value} {below : List Frame} {meth : Method} {c : Code} {T : State} {locs : List Loc} {cells slots : Nat}
theorem retI (X : Stand p l e R s m args below meth c T locs cells slots) (hx : p.tables.exec = Jvm.exec) {pc : Nat} {Ls : Array Slot} {z : Int32} {rest : List Value} (hret : meth.sig.returnType = some .int) (hd : decode c.code pc = .ok (.ireturn, 1)) {fs : List Frame}
    (hl : ∀ (f : JFrame) (acts : List Action), f.method = m → f.locked = none → f.entered = [] → (doReturn e (T.setTop f) acts (some (.int z))).1 = T.setFrames fs) : Steps p.tables e below (T.setTop (mkF m pc Ls (.int z :: rest))) (T.setFrames fs) :=
  retOut X hx hret rfl (Or.inl ⟨rfl, Or.inl rfl, z, rfl⟩) hd hl
end New
end Jvm.RoadKit
/- laws to paste: Road.backV, Road.lenW, Road.chN, Road.codOf (cut by pick.py; bodies as the Statement names them) -/
namespace Jvm.Pilot.@@N@@
namespace StrChars
open Jvm Sem ClassFile Op Lib Jvm.Stand Jvm.Free.XT Jvm.Free.ALB Jvm.Free.JM Jvm.Free
open Jvm.Lib.Cold (StaticIs)
/-- a char array whose places are chars -/
def Ch (a : Addr) (A : Cell) (U : State) : Prop := Arr .char a A U ∧ Typed .char A
theorem Ch.mv {a : Addr} {A : Cell} {U U' : State} (h : Ch a A U) (hal : U.vm.Alike U'.vm) (hh : U'.heap = U.heap) : Ch a A U' := ⟨h.1.mv hal hh, h.2⟩
theorem Ch.keep {a : Addr} {A : Cell} {U U' : State} (h : Ch a A U) (hal : U.vm.Alike U'.vm) (hk : U'.heap[a]? = some A) : Ch a A U' := ⟨h.1.keep hal hk, h.2⟩
/-- what place i of a char[]'s cell holds -/
def cv (A : Cell) (i : Nat) : Int32 := match A.slots[i]? with | some (.int x) => x | _ => 0
theorem Ch.get {a : Addr} {A : Cell} {U : State} (h : Ch a A U) {i : Nat} (hi : i < A.slots.size) : A.slots[i]? = some (.int (cv A i)) := by
  have e := Array.getElem?_eq_getElem hi
  have f := h.2 i _ e
  unfold cv; rw [e]
  generalize A.slots[i] = v at f
  cases v <;> simp [fits] at f ⊢
/-- the byte that i2b leaves of a char -/
def lo8 (x : Int32) : Int32 := x.toInt8.toInt32
theorem fits_lo8 (y : Int32) : fits .byte (.int (lo8 y)) = true := by
  have h1 := y.toInt8.le_toInt
  have h2 := y.toInt8.toInt_lt
  simp only [lo8, fits, Bool.and_eq_true, decide_eq_true_eq, Int32.le_iff_toInt_le, Int8.toInt_toInt32, show (-128 : Int32).toInt = -128 from by decide, show (127 : Int32).toInt = 127 from by decide]
  omega
/-- A' is A but that each place j of lo .. hi - 1 holds f j -/
def Laid (A A' : Cell) (lo hi : Nat) (f : Nat → Value) : Prop := A'.cls = A.cls ∧ A'.vm = A.vm ∧ A'.slots.size = A.slots.size ∧ ∀ i, A'.slots[i]? = if lo ≤ i ∧ i < hi then some (f i) else A.slots[i]?
theorem Laid.zero (A : Cell) (lo : Nat) (f : Nat → Value) : Laid A A lo (lo + 0) f := ⟨rfl, rfl, rfl, fun i => by rw [if_neg (by omega)]⟩
theorem Laid.step {A Ak : Cell} {lo k : Nat} {f : Nat → Value} {v : Value} (h : Laid A Ak lo k f) (hlo : lo ≤ k) (hk : k < Ak.slots.size) (hv : v = f k) : Laid A (Ak.setSlot k v) lo (k + 1) f := by
  refine ⟨h.1, h.2.1, by simpa [Cell.setSlot] using h.2.2.1, fun i => ?_⟩
  by_cases e : k = i
  · subst e; rw [Cell.slots_setSlot_self v hk, if_pos (by omega), hv]
  · rw [Cell.slots_setSlot_ne v e, h.2.2.2 i]
    by_cases q : lo ≤ i ∧ i < k
    · rw [if_pos q, if_pos (by omega)]
    · rw [if_neg q, if_neg (by omega)]
def U16 : String := "java/lang/StringUTF16"
namespace Cmp5
def yN : MethodName := ⟨"java/lang/StringUTF16", "compress", "([CI[BII)I"⟩
abbrev yB : ByteArray := jdk_52_method_21_code
theorem d0 : decode yB 0 = .ok (.iconst 0, 1) := by decide +kernel
theorem d1 : decode yB 1 = .ok (.istore 5, 2) := by decide +kernel
theorem d3 : decode yB 3 = .ok (.iload 5, 2) := by decide +kernel
theorem d5 : decode yB 5 = .ok (.iload 4, 2) := by decide +kernel
theorem d7 : decode yB 7 = .ok (.if_icmp (.ge) 37, 3) := by decide +kernel
theorem d10 : decode yB 10 = .ok (.aload_n 0, 1) := by decide +kernel
theorem d11 : decode yB 11 = .ok (.iload_n 1, 1) := by decide +kernel
theorem d12 : decode yB 12 = .ok (.caload, 1) := by decide +kernel
theorem d13 : decode yB 13 = .ok (.istore 6, 2) := by decide +kernel
theorem d15 : decode yB 15 = .ok (.iload 6, 2) := by decide +kernel
theorem d17 : decode yB 17 = .ok (.sipush 255, 3) := by decide +kernel
theorem d20 : decode yB 20 = .ok (.if_icmp (.le) 6, 3) := by decide +kernel
theorem d26 : decode yB 26 = .ok (.aload_n 2, 1) := by decide +kernel
theorem d27 : decode yB 27 = .ok (.iload_n 3, 1) := by decide +kernel
theorem d28 : decode yB 28 = .ok (.iload 6, 2) := by decide +kernel
theorem d30 : decode yB 30 = .ok (.i2b, 1) := by decide +kernel
theorem d31 : decode yB 31 = .ok (.bastore, 1) := by decide +kernel
theorem d32 : decode yB 32 = .ok (.iinc 1 1, 3) := by decide +kernel
theorem d35 : decode yB 35 = .ok (.iinc 3 1, 3) := by decide +kernel
theorem d38 : decode yB 38 = .ok (.iinc 5 1, 3) := by decide +kernel
theorem d41 : decode yB 41 = .ok (.goto (-38), 3) := by decide +kernel
theorem d44 : decode yB 44 = .ok (.iload 4, 2) := by decide +kernel
theorem d46 : decode yB 46 = .ok (.ireturn, 1) := by decide +kernel
def site : List Cond := []
def tab : Cond := tabOf yN yB 7 (some .int) site
def P (b : Addr) (A : Cell) (d : Addr) (B : Cell) (o q len : Nat) (args : Array Value) (s : State) : Prop := args = #[.ref b, .int (Int32.ofNat o), .ref d, .int (Int32.ofNat q), .int (Int32.ofNat len)] ∧ Ch b A s ∧ Arr .byte d B s ∧ b ≠ d ∧ o + len ≤ A.slots.size ∧ q + len ≤ B.slots.size ∧ ∀ i, i < len → ¬ 255 < cv A (o + i)
def E (b : Addr) (A : Cell) (d : Addr) (B : Cell) (o q len : Nat) (r : Option Value) (s u : State) : Prop := r = some (.int (Int32.ofNat len)) ∧ ∃ B', Put d B' s u ∧ Laid B B' q (q + len) (fun j => Value.int (lo8 (cv A (o + (j - q)))))
/-- no char of the range above 255: len; the places written hold each char's low byte -/
theorem law (l : Launch) (b : Addr) (A : Cell) (d : Addr) (B : Cell) (o q len : Nat) : Law l yN 5 5 0 0 yB 7 (some .int) site (P b A d B o q len) (E b A d B o q len) (copyLocs d q len) 0 0 := by
  refine Law.of_walk (plainFor_of_name (by decide +kernel)) (by decide +kernel) (by decide +kernel) (by decide) (fun _ _ h => by rw [h.1]; rfl) (fun _ U U' hal hh h => ⟨h.1, h.2.1.mv hal hh, h.2.2.1.mv hal hh, h.2.2.2⟩) (fun r U U' V V' h1 hal h2 h => ⟨h.1, h.2.elim fun B' q => ⟨B', q.1.mv h1 h2, q.2⟩⟩) ?_
  intro p e s m args below meth c s₁ X0 hexec hbytes hml hret hlk hnm hown hh0 W hP
  obtain ⟨rfl, hA, hB, hne, l1, l2, hp⟩ := hP
  have c1 : Steps p.tables e below (s₁.setTop (entryFrame m #[.ref b, .int (Int32.ofNat o), .ref d, .int (Int32.ofNat q), .int (Int32.ofNat len)] 7)) (s₁.setTop (mkF m 0 #[.val (.ref b), .val (.int (Int32.ofNat o)), .val (.ref d), .val (.int (Int32.ofNat q)), .val (.int (Int32.ofNat len)), .unset, .unset] [])) := entry rfl
  have hA0 := hA.1.mv X0.warmed.alike hh0
  have hB0 := hB.mv X0.warmed.alike hh0
  have a31 := hA.1.2.2.2
  have c2 : Steps p.tables e below (s₁.setTop (entryFrame m #[.ref b, .int (Int32.ofNat o), .ref d, .int (Int32.ofNat q), .int (Int32.ofNat len)] 7)) (s₁.setTop (mkF m 3 #[.val (.ref b), .val (.int (Int32.ofNat o)), .val (.ref d), .val (.int (Int32.ofNat q)), .val (.int (Int32.ofNat len)), .val (.int 0), .unset] [])) := c1.trans (by
    refine iconstV X0.here hexec rfl 0 (hb hbytes d0) (by decide) ?_
    refine XS.istore X0.here hexec rfl (hb hbytes d1) rfl rfl ?_
    exact Steps.refl _)
  have loop : ∀ (r i : Nat), i + r = len → ∀ (z : Slot), (z = .unset ∨ ∃ w, z = .val w ∧ w.category = 1) → ∀ (Tl : State) (Bk : Cell), Stand p l e { frames := 0, locals := 0, cells := 0, slots := 0 } s m #[.ref b, .int (Int32.ofNat o), .ref d, .int (Int32.ofNat q), .int (Int32.ofNat len)] below meth c Tl ([] ++ copyLocs d q i) 0 0 → Put d Bk s₁ Tl → Laid B Bk q (q + i) (fun j => Value.int (lo8 (cv A (o + (j - q))))) →
      Steps p.tables e below (s₁.setTop (entryFrame m #[.ref b, .int (Int32.ofNat o), .ref d, .int (Int32.ofNat q), .int (Int32.ofNat len)] 7)) (Tl.setTop (mkF m 3 #[.val (.ref b), .val (.int (Int32.ofNat (o + i))), .val (.ref d), .val (.int (Int32.ofNat (q + i))), .val (.int (Int32.ofNat len)), .val (.int (Int32.ofNat i)), z] [])) → ∃ (T' : State) (B' : Cell) (z' : Slot), Stand p l e { frames := 0, locals := 0, cells := 0, slots := 0 } s m #[.ref b, .int (Int32.ofNat o), .ref d, .int (Int32.ofNat q), .int (Int32.ofNat len)] below meth c T' ([] ++ copyLocs d q len) 0 0 ∧ Put d B' s₁ T' ∧ Laid B B' q (q + len) (fun j => Value.int (lo8 (cv A (o + (j - q))))) ∧
      Steps p.tables e below (s₁.setTop (entryFrame m #[.ref b, .int (Int32.ofNat o), .ref d, .int (Int32.ofNat q), .int (Int32.ofNat len)] 7)) (T'.setTop (mkF m 3 #[.val (.ref b), .val (.int (Int32.ofNat (o + len))), .val (.ref d), .val (.int (Int32.ofNat (q + len))), .val (.int (Int32.ofNat len)), .val (.int (Int32.ofNat len)), z'] [])) := by
    intro r
    induction r with
    | zero =>
      intro i hi z hz Tl Bk Xl pl fl cl
      have hil : i = len := by omega
      rw [hil] at Xl fl cl
      exact ⟨Tl, Bk, z, Xl, pl, fl, cl⟩
    | succ r ih =>
      intro i hi z hz Tl Bk Xl pl fl cl
      have all := X0.warmed.alike.symm.trans Xl.warmed.alike
      have hAl := hA0.keep all (pl.other hne hA0.1)
      have hBk := hB0.like all pl.1 fl.1 fl.2.1 fl.2.2.1
      have hlt : q + i < Bk.slots.size := by rw [fl.2.2.1]; omega
      have c3 : Steps p.tables e below (s₁.setTop (entryFrame m #[.ref b, .int (Int32.ofNat o), .ref d, .int (Int32.ofNat q), .int (Int32.ofNat len)] 7)) (Tl.setTop (mkF m 12 #[.val (.ref b), .val (.int (Int32.ofNat (o + i))), .val (.ref d), .val (.int (Int32.ofNat (q + i))), .val (.int (Int32.ofNat len)), .val (.int (Int32.ofNat i)), z] [.int (Int32.ofNat (o + i)), .ref b])) := cl.trans (by
        refine XS.iload Xl.here hexec rfl (hb hbytes d3) rfl ?_
        refine XS.iload Xl.here hexec rfl (hb hbytes d5) rfl ?_
        refine XS.icmpNo Xl.here hexec rfl (hb hbytes d7) rfl (ii_ge_f (lt32 (by omega) (by omega))) ?_
        refine XS.aloadN Xl.here hexec rfl (hb hbytes d10) rfl rfl ?_
        refine XS.iloadN Xl.here hexec rfl (hb hbytes d11) rfl ?_
        exact Steps.refl _)
      have c4 : Steps p.tables e below (s₁.setTop (entryFrame m #[.ref b, .int (Int32.ofNat o), .ref d, .int (Int32.ofNat q), .int (Int32.ofNat len)] 7)) (Tl.setTop (mkF m 13 #[.val (.ref b), .val (.int (Int32.ofNat (o + i))), .val (.ref d), .val (.int (Int32.ofNat (q + i))), .val (.int (Int32.ofNat len)), .val (.int (Int32.ofNat i)), z] [.int (cv A (o + i))])) := c3.trans (by
        refine Xl.aget hexec hAl rfl (hA.get (i := o + i) (by omega)) rfl rfl (hb hbytes d12) ?_
        exact Steps.refl _)
      have c5 : Steps p.tables e below (s₁.setTop (entryFrame m #[.ref b, .int (Int32.ofNat o), .ref d, .int (Int32.ofNat q), .int (Int32.ofNat len)] 7)) (Tl.setTop (mkF m 15 #[.val (.ref b), .val (.int (Int32.ofNat (o + i))), .val (.ref d), .val (.int (Int32.ofNat (q + i))), .val (.int (Int32.ofNat len)), .val (.int (Int32.ofNat i)), .val (.int (cv A (o + i)))] [])) := c4.trans (by
        refine XS.istoreS Xl.here hexec rfl (hb hbytes d13) rfl rfl hz ?_
        exact Steps.refl _)
      have c6 : Steps p.tables e below (s₁.setTop (entryFrame m #[.ref b, .int (Int32.ofNat o), .ref d, .int (Int32.ofNat q), .int (Int32.ofNat len)] 7)) (Tl.setTop (mkF m 31 #[.val (.ref b), .val (.int (Int32.ofNat (o + i))), .val (.ref d), .val (.int (Int32.ofNat (q + i))), .val (.int (Int32.ofNat len)), .val (.int (Int32.ofNat i)), .val (.int (cv A (o + i)))] [.int (lo8 (cv A (o + i))), .int (Int32.ofNat (q + i)), .ref d])) := c5.trans (by
        refine XS.iload Xl.here hexec rfl (hb hbytes d15) rfl ?_
        refine sipushV Xl.here hexec rfl 255 (hb hbytes d17) (by decide) ?_
        refine XS.icmpYes Xl.here hexec rfl (pc0 := 20) rfl (hb hbytes d20) rfl (ii_le_t (hp i (by omega))) (by decide) rfl ?_
        refine XS.aloadN Xl.here hexec rfl (hb hbytes d26) rfl rfl ?_
        refine XS.iloadN Xl.here hexec rfl (hb hbytes d27) rfl ?_
        refine XS.iload Xl.here hexec rfl (hb hbytes d28) rfl ?_
        refine i2b Xl.here hexec rfl (hb hbytes d30) rfl ?_
        exact Steps.refl _)
      obtain ⟨T7, X7, p7, st7⟩ := Xl.aput hexec hBk rfl hlt rfl (fits_lo8 (cv A (o + i))) (g := (mkF m 31 #[.val (.ref b), .val (.int (Int32.ofNat (o + i))), .val (.ref d), .val (.int (Int32.ofNat (q + i))), .val (.int (Int32.ofNat len)), .val (.int (Int32.ofNat i)), .val (.int (cv A (o + i)))] [.int (lo8 (cv A (o + i))), .int (Int32.ofNat (q + i)), .ref d])) rfl (rest := []) rfl (hb hbytes d31)
      have c8 : Steps p.tables e below (s₁.setTop (entryFrame m #[.ref b, .int (Int32.ofNat o), .ref d, .int (Int32.ofNat q), .int (Int32.ofNat len)] 7)) (T7.setTop (mkF m 32 #[.val (.ref b), .val (.int (Int32.ofNat (o + i))), .val (.ref d), .val (.int (Int32.ofNat (q + i))), .val (.int (Int32.ofNat len)), .val (.int (Int32.ofNat i)), .val (.int (cv A (o + i)))] [])) := c6.trans (st7 _ (Steps.refl _))
      have c9 : Steps p.tables e below (s₁.setTop (entryFrame m #[.ref b, .int (Int32.ofNat o), .ref d, .int (Int32.ofNat q), .int (Int32.ofNat len)] 7)) (T7.setTop (mkF m 3 #[.val (.ref b), .val (.int (Int32.ofNat (o + i) + 1)), .val (.ref d), .val (.int (Int32.ofNat (q + i) + 1)), .val (.int (Int32.ofNat len)), .val (.int (Int32.ofNat i + 1)), .val (.int (cv A (o + i)))] [])) := c8.trans (by
        refine iincV X7.here hexec rfl 1 (hb hbytes d32) (by decide) rfl rfl ?_
        refine iincV X7.here hexec rfl 1 (hb hbytes d35) (by decide) rfl rfl ?_
        refine iincV X7.here hexec rfl 1 (hb hbytes d38) (by decide) rfl rfl ?_
        refine XS.goto X7.here hexec rfl (pc0 := 41) rfl (hb hbytes d41) (by decide) rfl ?_
        exact Steps.refl _)
      have c10 : Steps p.tables e below (s₁.setTop (entryFrame m #[.ref b, .int (Int32.ofNat o), .ref d, .int (Int32.ofNat q), .int (Int32.ofNat len)] 7)) (T7.setTop (mkF m 3 #[.val (.ref b), .val (.int (Int32.ofNat (o + (i + 1)))), .val (.ref d), .val (.int (Int32.ofNat (q + (i + 1)))), .val (.int (Int32.ofNat len)), .val (.int (Int32.ofNat (i + 1))), .val (.int (cv A (o + i)))] [])) := by
        have := c9
        rw [succ32, succ32, succ32] at this
        exact this
      exact ih (i + 1) (by omega) _ (Or.inr ⟨_, rfl, rfl⟩) T7 _ (by rw [copyLocs_step, ← List.append_assoc]; exact X7) (pl.trans p7) (fl.step (by omega) hlt (by simp)) c10
  obtain ⟨T9, B9, z9, X9, p9, f9, g9⟩ := loop len 0 (by omega) .unset (Or.inl rfl) s₁ B (by simpa [copyLocs] using X0) ⟨hB0.1, fun _ _ => rfl, rfl⟩ (Laid.zero _ _ _) c2
  have c11 : Steps p.tables e below (s₁.setTop (entryFrame m #[.ref b, .int (Int32.ofNat o), .ref d, .int (Int32.ofNat q), .int (Int32.ofNat len)] 7)) (T9.setTop (mkF m 46 #[.val (.ref b), .val (.int (Int32.ofNat (o + len))), .val (.ref d), .val (.int (Int32.ofNat (q + len))), .val (.int (Int32.ofNat len)), .val (.int (Int32.ofNat len)), z9] [.int (Int32.ofNat len)])) := g9.trans (by
    refine XS.iload X9.here hexec rfl (hb hbytes d3) rfl ?_
    refine XS.iload X9.here hexec rfl (hb hbytes d5) rfl ?_
    refine XS.icmpYes X9.here hexec rfl (pc0 := 7) rfl (hb hbytes d7) rfl (ii_ge_t (nlt32 (by omega) (Nat.le_refl _))) (by decide) rfl ?_
    refine XS.iload X9.here hexec rfl (hb hbytes d44) rfl ?_
    exact Steps.refl _)
  exact ⟨T9, some (.int (Int32.ofNat len)), _, _, _, X9, by simp, rfl, rfl, (fun h => by cases h), ⟨rfl, B9, p9.from hh0, f9⟩, fun fs hl => c11.trans (X9.ireturnOut hexec hret rfl (Or.inl rfl) (hb hbytes d46) hl)⟩
end Cmp5
namespace Cmp3
def yN : MethodName := ⟨"java/lang/StringUTF16", "compress", "([CII)[B"⟩
abbrev yB : ByteArray := jdk_52_method_16_code
theorem d0 : decode yB 0 = .ok (.iload_n 2, 1) := by decide +kernel
theorem d1 : decode yB 1 = .ok (.newarray .byte, 2) := by decide +kernel
theorem d3 : decode yB 3 = .ok (.astore_n 3, 1) := by decide +kernel
theorem d4 : decode yB 4 = .ok (.aload_n 0, 1) := by decide +kernel
theorem d5 : decode yB 5 = .ok (.iload_n 1, 1) := by decide +kernel
theorem d6 : decode yB 6 = .ok (.aload_n 3, 1) := by decide +kernel
theorem d7 : decode yB 7 = .ok (.iconst 0, 1) := by decide +kernel
theorem d8 : decode yB 8 = .ok (.iload_n 2, 1) := by decide +kernel
theorem d9 : decode yB 9 = .ok (.invokestatic 115, 3) := by decide +kernel
theorem d12 : decode yB 12 = .ok (.istore 4, 2) := by decide +kernel
theorem d14 : decode yB 14 = .ok (.iload 4, 2) := by decide +kernel
theorem d16 : decode yB 16 = .ok (.iload_n 2, 1) := by decide +kernel
theorem d17 : decode yB 17 = .ok (.if_icmp (.eq) 40, 3) := by decide +kernel
theorem d57 : decode yB 57 = .ok (.aload_n 3, 1) := by decide +kernel
theorem d58 : decode yB 58 = .ok (.areturn, 1) := by decide +kernel
def site : List Cond := [.arrayClass .byte, Cmp5.tab] ++ staticW U16 115 Cmp5.yN
def tab : Cond := tabOf yN yB 6 (some (.array .byte)) site
def P (b : Addr) (A : Cell) (o len : Nat) (args : Array Value) (s : State) : Prop := args = #[.ref b, .int (Int32.ofNat o), .int (Int32.ofNat len)] ∧ Ch b A s ∧ o + len ≤ A.slots.size ∧ len ≤ 536870912 ∧ ∀ i, i < len → ¬ 255 < cv A (o + i)
def E (b : Addr) (A : Cell) (o len : Nat) (r : Option Value) (s u : State) : Prop := NewArr .byte "[B" len (fun j => .int (lo8 (cv A (o + j)))) r s u ∧ u.heap.size = s.heap.size + 1
/-- no char of the range above 255: a new byte[] of their low bytes -/
theorem law (l : Launch) (b : Addr) (A : Cell) (o len : Nat) : Law l yN 3 3 1 18 yB 6 (some (.array .byte)) site (P b A o len) (E b A o len) [] 1 len := by
  refine Law.of_walk (plainFor_of_name (by decide +kernel)) (by decide +kernel) (by decide +kernel) (by decide) (fun _ _ h => by rw [h.1]; rfl) (fun _ U U' hal hh h => ⟨h.1, h.2.1.mv hal hh, h.2.2⟩) (fun r U U' V V' h1 hal h2 h => ⟨NewArr.mv r U U' V V' h1 hal h2 h.1, by rw [h1, h2]; exact h.2⟩) ?_
  intro p e s m args below meth c s₁ X0 hexec hbytes hml hret hlk hnm hown hh0 W hP
  obtain ⟨rfl, hA, l1, l2, hp⟩ := hP
  have a31 := hA.1.2.2.2
  have c1 : Steps p.tables e below (s₁.setTop (entryFrame m #[.ref b, .int (Int32.ofNat o), .int (Int32.ofNat len)] 6)) (s₁.setTop (mkF m 0 #[.val (.ref b), .val (.int (Int32.ofNat o)), .val (.int (Int32.ofNat len)), .unset, .unset, .unset] [])) := entry rfl
  have c2 : Steps p.tables e below (s₁.setTop (entryFrame m #[.ref b, .int (Int32.ofNat o), .int (Int32.ofNat len)] 6)) (s₁.setTop (mkF m 1 #[.val (.ref b), .val (.int (Int32.ofNat o)), .val (.int (Int32.ofNat len)), .unset, .unset, .unset] [.int (Int32.ofNat len)])) := c1.trans (by
    refine XS.iloadN X0.here hexec rfl (hb hbytes d0) rfl ?_
    exact Steps.refl _)
  obtain ⟨T3, B3, X3, ba3, bs3, bv3, bh3, bf3, st3⟩ := X0.anew hexec (atype := .byte) (wk W (.arrayClass .byte)) rfl (by show len * 1 ≤ _; omega) (by omega) (g := (mkF m 1 #[.val (.ref b), .val (.int (Int32.ofNat o)), .val (.int (Int32.ofNat len)), .unset, .unset, .unset] [.int (Int32.ofNat len)])) rfl (hb hbytes d1) (rest := []) rfl (Nat.le_refl _) (by show 0 + len ≤ len; omega)
  rw [hh0] at ba3 st3
  have kp3 : XT.Kept s T3 := (XT.Kept.of_eq hh0).push bh3
  have hA3 := hA.keep X3.warmed.alike (kp3 _ _ hA.1.1)
  have hne : b ≠ s.heap.size := hA.1.ne
  have c4 : Steps p.tables e below (s₁.setTop (entryFrame m #[.ref b, .int (Int32.ofNat o), .int (Int32.ofNat len)] 6)) (T3.setTop (mkF m 3 #[.val (.ref b), .val (.int (Int32.ofNat o)), .val (.int (Int32.ofNat len)), .unset, .unset, .unset] [.ref s.heap.size])) := c2.trans (st3 _ (Steps.refl _))
  have c5 : Steps p.tables e below (s₁.setTop (entryFrame m #[.ref b, .int (Int32.ofNat o), .int (Int32.ofNat len)] 6)) (T3.setTop (mkF m 9 #[.val (.ref b), .val (.int (Int32.ofNat o)), .val (.int (Int32.ofNat len)), .val (.ref s.heap.size), .unset, .unset] [.int (Int32.ofNat len), .int 0, .ref s.heap.size, .int (Int32.ofNat o), .ref b])) := c4.trans (by
    refine XS.astoreN X3.here hexec rfl (hb hbytes d3) rfl rfl rfl ?_
    refine XS.aloadN X3.here hexec rfl (hb hbytes d4) rfl rfl ?_
    refine XS.iloadN X3.here hexec rfl (hb hbytes d5) rfl ?_
    refine XS.aloadN X3.here hexec rfl (hb hbytes d6) rfl rfl ?_
    refine iconstV X3.here hexec rfl 0 (hb hbytes d7) (by decide) ?_
    refine XS.iloadN X3.here hexec rfl (hb hbytes d8) rfl ?_
    exact Steps.refl _)
  obtain ⟨v6, T6, X6, E6, g6⟩ := X3.callS hexec (Cmp5.law l b A s.heap.size B3 o 0 len) hown (wks W (staticW U16 115 Cmp5.yN)) (wk W Cmp5.tab) (W := 0) (Nat.le_of_ble_eq_true rfl) (Nat.le_of_ble_eq_true rfl) (Nat.le_refl _) (by show 0 + len + 0 ≤ len; omega) (g := (mkF m 9 #[.val (.ref b), .val (.int (Int32.ofNat o)), .val (.int (Int32.ofNat len)), .val (.ref s.heap.size), .unset, .unset] [.int (Int32.ofNat len), .int (Int32.ofNat 0), .ref s.heap.size, .int (Int32.ofNat o), .ref b])) rfl (by rw [hml]; rfl) c5 (argsL := [.ref b, .int (Int32.ofNat o), .ref s.heap.size, .int (Int32.ofNat 0), .int (Int32.ofNat len)]) (rest := []) rfl rfl (by show 2 * 0 + 0 ≤ _; decide) (hb hbytes d9) (⟨rfl, hA3, ba3, hne, l1, by rw [bs3]; simp, hp⟩)
  obtain ⟨rfl, B6, p6, f6⟩ := E6
  have c7 : Steps p.tables e below (s₁.setTop (entryFrame m #[.ref b, .int (Int32.ofNat o), .int (Int32.ofNat len)] 6)) (T6.setTop (mkF m 12 #[.val (.ref b), .val (.int (Int32.ofNat o)), .val (.int (Int32.ofNat len)), .val (.ref s.heap.size), .unset, .unset] [.int (Int32.ofNat len)])) := g6
  have c8 : Steps p.tables e below (s₁.setTop (entryFrame m #[.ref b, .int (Int32.ofNat o), .int (Int32.ofNat len)] 6)) (T6.setTop (mkF m 58 #[.val (.ref b), .val (.int (Int32.ofNat o)), .val (.int (Int32.ofNat len)), .val (.ref s.heap.size), .val (.int (Int32.ofNat len)), .unset] [.ref s.heap.size])) := c7.trans (by
    refine XS.istore X6.here hexec rfl (hb hbytes d12) rfl rfl ?_
    refine XS.iload X6.here hexec rfl (hb hbytes d14) rfl ?_
    refine XS.iloadN X6.here hexec rfl (hb hbytes d16) rfl ?_
    refine XS.icmpYes X6.here hexec rfl (pc0 := 17) rfl (hb hbytes d17) rfl (ii_eq_t rfl) (by decide) rfl ?_
    refine XS.aloadN X6.here hexec rfl (hb hbytes d57) rfl rfl ?_
    exact Steps.refl _)
  have X8 := X6.wide (L' := []) (cells' := 1) (slots' := len) (fun x hx hlt => by
    simp only [List.nil_append, copyLocs, List.mem_map, List.mem_range] at hx
    obtain ⟨i, -, rfl⟩ := hx
    exact absurd hlt (Nat.lt_irrefl _)) (Nat.le_refl _) (by omega)
  exact ⟨T6, some (.ref s.heap.size), _, _, _, X8, rfl, rfl, rfl, (fun h => by cases h), ⟨⟨rfl, B6, ba3.like (X3.warmed.alike.symm.trans X6.warmed.alike) p6.1 f6.1 f6.2.1 f6.2.2.1, f6.2.1.trans bv3, by rw [X6.warmed.alike.findClass, f6.1]; exact bf3, by rw [f6.2.2.1, bs3]; simp, fun j hj => by rw [f6.2.2.2 j, if_pos (by omega)]; rfl, kp3.put p6 (Nat.le_refl _)⟩, by rw [p6.2.2, bh3, hh0]; simp⟩, fun fs hl => c8.trans (X8.areturnOut hexec rfl hret rfl (hb hbytes d58) hl)⟩
end Cmp3
namespace CodL
def yN : MethodName := ⟨"java/lang/StringUTF16", "coderFromArrayLen", "([BI)B"⟩
abbrev yB : ByteArray := jdk_52_method_15_code
theorem d0 : decode yB 0 = .ok (.iload_n 1, 1) := by decide +kernel
theorem d1 : decode yB 1 = .ok (.aload_n 0, 1) := by decide +kernel
theorem d2 : decode yB 2 = .ok (.arraylength, 1) := by decide +kernel
theorem d3 : decode yB 3 = .ok (.isub, 1) := by decide +kernel
theorem d4 : decode yB 4 = .ok (.bipush 31, 2) := by decide +kernel
theorem d6 : decode yB 6 = .ok (.iushr, 1) := by decide +kernel
theorem d7 : decode yB 7 = .ok (.i2b, 1) := by decide +kernel
theorem d8 : decode yB 8 = .ok (.ireturn, 1) := by decide +kernel
def site : List Cond := []
def tab : Cond := tabOf yN yB 2 (some .byte) site
def P (d : Addr) (B : Cell) (args : Array Value) (s : State) : Prop := args = #[.ref d, .int (Int32.ofNat B.slots.size)] ∧ Arr .byte d B s
def E (r : Option Value) (s u : State) : Prop := XT.PureE (some (.int 0)) r s u
/-- an array as long as the number of chars: LATIN1 -/
theorem law (l : Launch) (d : Addr) (B : Cell) : Law l yN 2 2 0 0 yB 2 (some .byte) site (P d B) E [] 0 0 := by
  refine Law.of_walk (plainFor_of_name (by decide +kernel)) (by decide +kernel) (by decide +kernel) (by decide) (fun _ _ h => by rw [h.1]; rfl) (fun _ U U' hal hh h => ⟨h.1, h.2.mv hal hh⟩) (fun r U U' V V' h1 hal h2 h => XT.PureE.mv r U U' V V' h1 hal h2 h) ?_
  intro p e s m args below meth c s₁ X0 hexec hbytes hml hret hlk hnm hown hh0 W hP
  obtain ⟨rfl, hB⟩ := hP
  have hB0 := hB.mv X0.warmed.alike hh0
  have c1 : Steps p.tables e below (s₁.setTop (entryFrame m #[.ref d, .int (Int32.ofNat B.slots.size)] 2)) (s₁.setTop (mkF m 0 #[.val (.ref d), .val (.int (Int32.ofNat B.slots.size))] [])) := entry rfl
  have c2 : Steps p.tables e below (s₁.setTop (entryFrame m #[.ref d, .int (Int32.ofNat B.slots.size)] 2)) (s₁.setTop (mkF m 2 #[.val (.ref d), .val (.int (Int32.ofNat B.slots.size))] [.ref d, .int (Int32.ofNat B.slots.size)])) := c1.trans (by
    refine XS.iloadN X0.here hexec rfl (hb hbytes d0) rfl ?_
    refine XS.aloadN X0.here hexec rfl (hb hbytes d1) rfl rfl ?_
    exact Steps.refl _)
  have c3 : Steps p.tables e below (s₁.setTop (entryFrame m #[.ref d, .int (Int32.ofNat B.slots.size)] 2)) (s₁.setTop (mkF m 8 #[.val (.ref d), .val (.int (Int32.ofNat B.slots.size))] [.int (lo8 (ushr (Int32.ofNat B.slots.size - Int32.ofNat B.slots.size) 31))])) := c2.trans (by
    refine X0.alen hexec hB0 rfl rfl (hb hbytes d2) ?_
    refine XS.isub X0.here hexec rfl (hb hbytes d3) rfl ?_
    refine bipushV X0.here hexec rfl 31 (hb hbytes d4) (by decide) ?_
    refine iushr X0.here hexec rfl (hb hbytes d6) rfl ?_
    refine i2b X0.here hexec rfl (hb hbytes d7) rfl ?_
    exact Steps.refl _)
  have e0 : lo8 (ushr (Int32.ofNat B.slots.size - Int32.ofNat B.slots.size) 31) = 0 := by rw [Int32.sub_self]; decide
  rw [e0] at c3
  exact ⟨s₁, some (.int 0), _, _, _, X0, rfl, rfl, rfl, (fun h => by cases h), ⟨rfl, hh0⟩, fun fs hl => c3.trans (X0.ireturnOut hexec hret rfl (Or.inr (Or.inr (Or.inl rfl))) (hb hbytes d8) hl)⟩
end CodL
/-- the String at a is Latin-1 over a new byte[] (the heap's one new cell): the low bytes of the len chars of A from o on; every cell but a is kept -/
def Got (a : Addr) (D : Cell) (fV fC : Field) (A : Cell) (o len : Nat) (r : Option Value) (s u : State) : Prop := r = none ∧ ∃ D' V : Cell, Blank "java/lang/String" a D' u ∧ Same D D' [fV.slot, fC.slot] ∧ D'.slots[fV.slot]? = some (.ref s.heap.size) ∧ D'.slots[fC.slot]? = some (.int 0) ∧ Arr .byte s.heap.size V u ∧ V.vm = .none ∧ u.vm.findClass "[B" = some V.cls ∧ V.slots.size = len ∧ (∀ j, j < len → V.slots[j]? = some (.int (lo8 (cv A (o + j))))) ∧ (∀ (y : Addr) (c : Cell), y ≠ a → s.heap[y]? = some c → u.heap[y]? = some c) ∧ u.heap.size = s.heap.size + 1
theorem Got.mv {a : Addr} {D A : Cell} {fV fC : Field} {o len : Nat} : ∀ r (U U' V V' : State), U'.heap = U.heap → V.vm.Alike V'.vm → V'.heap = V.heap → Got a D fV fC A o len r U V → Got a D fV fC A o len r U' V' :=
  fun r U U' V V' h1 hal h2 ⟨e0, D', X, a1, a2, a3, a4, a5, a6, a7, a8, a9, a10, a11⟩ => ⟨e0, D', X, a1.mv hal h2, a2, by rw [h1]; exact a3, a4, by rw [h1]; exact a5.mv hal h2, a6, by rw [hal.findClass]; exact a7, a8, a9, by rw [h1, h2]; exact a10, by rw [h1, h2]; exact a11⟩
namespace New4
def yN : MethodName := ⟨"java/lang/String", "<init>", "([CIILjava/lang/Void;)V"⟩
abbrev yB : ByteArray := jdk_42_method_149_code
theorem d0 : decode yB 0 = .ok (.aload_n 0, 1) := by decide +kernel
theorem d1 : decode yB 1 = .ok (.invokespecial 1, 3) := by decide +kernel
theorem d4 : decode yB 4 = .ok (.iload_n 3, 1) := by decide +kernel
theorem d5 : decode yB 5 = .ok (.ifCond (.ne) 22, 3) := by decide +kernel
theorem d27 : decode yB 27 = .ok (.getstatic 38, 3) := by decide +kernel
theorem d30 : decode yB 30 = .ok (.ifCond (.eq) 28, 3) := by decide +kernel
theorem d33 : decode yB 33 = .ok (.aload_n 1, 1) := by decide +kernel
theorem d34 : decode yB 34 = .ok (.iload_n 2, 1) := by decide +kernel
theorem d35 : decode yB 35 = .ok (.iload_n 3, 1) := by decide +kernel
theorem d36 : decode yB 36 = .ok (.invokestatic 177, 3) := by decide +kernel
theorem d39 : decode yB 39 = .ok (.astore 5, 2) := by decide +kernel
theorem d41 : decode yB 41 = .ok (.aload_n 0, 1) := by decide +kernel
theorem d42 : decode yB 42 = .ok (.aload 5, 2) := by decide +kernel
theorem d44 : decode yB 44 = .ok (.iload_n 3, 1) := by decide +kernel
theorem d45 : decode yB 45 = .ok (.invokestatic 47, 3) := by decide +kernel
theorem d48 : decode yB 48 = .ok (.putfield 15, 3) := by decide +kernel
theorem d51 : decode yB 51 = .ok (.aload_n 0, 1) := by decide +kernel
theorem d52 : decode yB 52 = .ok (.aload 5, 2) := by decide +kernel
theorem d54 : decode yB 54 = .ok (.putfield 9, 3) := by decide +kernel
theorem d57 : decode yB 57 = .ok (.return_, 1) := by decide +kernel
def site : List Cond := [.fieldLink "java/lang/String" 38 "java/lang/String" "COMPACT_STRINGS" "Z", Cmp3.tab, CodL.tab, .laysFinal "java/lang/String" "java/lang/String" "value" "[B", .fieldLink "java/lang/String" 9 "java/lang/String" "value" "[B", .laysFinal "java/lang/String" "java/lang/String" "coder" "B", .fieldLink "java/lang/String" 15 "java/lang/String" "coder" "B"] ++ objW "java/lang/String" 1 ++ staticW "java/lang/String" 177 Cmp3.yN ++ staticW "java/lang/String" 47 CodL.yN
def tab : Cond := tabOf yN yB 6 none site
def P (a : Addr) (D : Cell) (fV fC : Field) (b : Addr) (A : Cell) (z : Int32) (o len : Nat) (args : Array Value) (s : State) : Prop := args = #[.ref a, .ref b, .int (Int32.ofNat o), .int (Int32.ofNat len), .null] ∧ Blank "java/lang/String" a D s ∧ Found "java/lang/String" "value" "[B" fV s ∧ Found "java/lang/String" "coder" "B" fC s ∧ Ch b A s ∧ StaticIs s "java/lang/String" "COMPACT_STRINGS" "Z" (.int z) ∧ ¬ z = 0 ∧ 0 < len ∧ o + len ≤ A.slots.size ∧ len ≤ 536870912 ∧ ∀ i, i < len → ¬ 255 < cv A (o + i)
def E (a : Addr) (D : Cell) (fV fC : Field) (A : Cell) (o len : Nat) (r : Option Value) (s u : State) : Prop := Got a D fV fC A o len r s u
/-- len > 0, no char of the range above 255: a Latin-1 String of their low bytes -/
theorem law (l : Launch) (a : Addr) (D : Cell) (fV fC : Field) (b : Addr) (A : Cell) (z : Int32) (o len : Nat) : Law l yN 5 4 2 35 yB 6 none site (P a D fV fC b A z o len) (E a D fV fC A o len) [⟨a, fC.slot⟩, ⟨a, fV.slot⟩] 1 len := by
  refine Law.of_walk (plainFor_of_name (by decide +kernel)) (by decide +kernel) (by decide +kernel) (by decide) (fun _ _ h => by rw [h.1]; rfl) (fun _ U U' hal hh h => ⟨h.1, h.2.1.mv hal hh, h.2.2.1.al hal, h.2.2.2.1.al hal, h.2.2.2.2.1.mv hal hh, h.2.2.2.2.2.1.there hal hh, h.2.2.2.2.2.2⟩) (fun r U U' V V' h1 hal h2 h => Got.mv r U U' V V' h1 hal h2 h) ?_
  intro p e s m args below meth c s₁ X0 hexec hbytes hml hret hlk hnm hown hh0 W hP
  obtain ⟨rfl, hB, f1, f2, hA, s1, hz, l0, l1, l2, hp⟩ := hP
  have a31 := hA.1.2.2.2
  have c1 : Steps p.tables e below (s₁.setTop (entryFrame m #[.ref a, .ref b, .int (Int32.ofNat o), .int (Int32.ofNat len), .null] 6)) (s₁.setTop (mkF m 0 #[.val (.ref a), .val (.ref b), .val (.int (Int32.ofNat o)), .val (.int (Int32.ofNat len)), .val .null, .unset] [])) := entry rfl
  have c2 : Steps p.tables e below (s₁.setTop (entryFrame m #[.ref a, .ref b, .int (Int32.ofNat o), .int (Int32.ofNat len), .null] 6)) (s₁.setTop (mkF m 1 #[.val (.ref a), .val (.ref b), .val (.int (Int32.ofNat o)), .val (.int (Int32.ofNat len)), .val .null, .unset] [.ref a])) := c1.trans (by
    refine XS.aloadN X0.here hexec rfl (hb hbytes d0) rfl rfl ?_
    exact Steps.refl _)
  obtain ⟨T3, X3, q3, st3⟩ := X0.oinit hexec hown (wks W (objW "java/lang/String" 1)) (g := (mkF m 1 #[.val (.ref a), .val (.ref b), .val (.int (Int32.ofNat o)), .val (.int (Int32.ofNat len)), .val .null, .unset] [.ref a])) rfl (by rw [hml]; rfl) (rest := []) rfl (hb hbytes d1) (W := 0) (by show 2 * 0 + 0 ≤ _; decide) (Nat.le_of_ble_eq_true rfl) (Nat.le_of_ble_eq_true rfl)
  have hh3 := q3.trans hh0
  have c4 : Steps p.tables e below (s₁.setTop (entryFrame m #[.ref a, .ref b, .int (Int32.ofNat o), .int (Int32.ofNat len), .null] 6)) (T3.setTop (mkF m 27 #[.val (.ref a), .val (.ref b), .val (.int (Int32.ofNat o)), .val (.int (Int32.ofNat len)), .val .null, .unset] [])) := (c2.trans (st3 _ (Steps.refl _))).trans (by
    refine XS.iloadN X3.here hexec rfl (hb hbytes d4) rfl ?_
    refine XS.ifYes X3.here hexec rfl (pc0 := 5) rfl (hb hbytes d5) rfl (i0_ne_t (nz32 (by omega) l0)) (by decide) rfl ?_
    exact Steps.refl _)
  obtain ⟨T5, X5, q5, st5⟩ := X3.sget hexec hown (wk W (.fieldLink "java/lang/String" 38 "java/lang/String" "COMPACT_STRINGS" "Z")) s1 (fun _ _ h => by rw [hh3]; exact h) (g := (mkF m 27 #[.val (.ref a), .val (.ref b), .val (.int (Int32.ofNat o)), .val (.int (Int32.ofNat len)), .val .null, .unset] [])) rfl (hb hbytes d27)
  have hh5 := q5.trans hh3
  have c6 : Steps p.tables e below (s₁.setTop (entryFrame m #[.ref a, .ref b, .int (Int32.ofNat o), .int (Int32.ofNat len), .null] 6)) (T5.setTop (mkF m 30 #[.val (.ref a), .val (.ref b), .val (.int (Int32.ofNat o)), .val (.int (Int32.ofNat len)), .val .null, .unset] [.int z])) := c4.trans (st5 _ (Steps.refl _))
  have c7 : Steps p.tables e below (s₁.setTop (entryFrame m #[.ref a, .ref b, .int (Int32.ofNat o), .int (Int32.ofNat len), .null] 6)) (T5.setTop (mkF m 36 #[.val (.ref a), .val (.ref b), .val (.int (Int32.ofNat o)), .val (.int (Int32.ofNat len)), .val .null, .unset] [.int (Int32.ofNat len), .int (Int32.ofNat o), .ref b])) := c6.trans (by
    refine XS.ifNo X5.here hexec rfl (hb hbytes d30) rfl (i0_eq_f hz) ?_
    refine XS.aloadN X5.here hexec rfl (hb hbytes d33) rfl rfl ?_
    refine XS.iloadN X5.here hexec rfl (hb hbytes d34) rfl ?_
    refine XS.iloadN X5.here hexec rfl (hb hbytes d35) rfl ?_
    exact Steps.refl _)
  obtain ⟨v8, T8, X8, E8, g8⟩ := X5.callS hexec (Cmp3.law l b A o len) hown (wks W (staticW "java/lang/String" 177 Cmp3.yN)) (wk W Cmp3.tab) (W := 0) (Nat.le_of_ble_eq_true rfl) (Nat.le_of_ble_eq_true rfl) (Nat.le_refl _) (by show 0 + len ≤ len; omega) (g := (mkF m 36 #[.val (.ref a), .val (.ref b), .val (.int (Int32.ofNat o)), .val (.int (Int32.ofNat len)), .val .null, .unset] [.int (Int32.ofNat len), .int (Int32.ofNat o), .ref b])) rfl (by rw [hml]; rfl) c7 (argsL := [.ref b, .int (Int32.ofNat o), .int (Int32.ofNat len)]) (rest := []) rfl rfl (by show 2 * 0 + 0 ≤ _; decide) (hb hbytes d36) (⟨rfl, hA.mv X5.warmed.alike hh5, l1, l2, hp⟩)
  obtain ⟨e8, z8⟩ := E8
  obtain ⟨rfl, N, n1, n2, n3, n4, n5, n6⟩ := NewArr.mv _ T5 s _ _ hh5.symm (Vm.Alike.refl _) rfl e8
  rw [hh5] at z8
  have hB1 := hB.keep X8.warmed.alike (n6 _ _ hB.1)
  have hne : s.heap.size ≠ a := (Nat.ne_of_lt (Array.getElem?_eq_some_iff.mp hB.1).1).symm
  have c9 : Steps p.tables e below (s₁.setTop (entryFrame m #[.ref a, .ref b, .int (Int32.ofNat o), .int (Int32.ofNat len), .null] 6)) (T8.setTop (mkF m 39 #[.val (.ref a), .val (.ref b), .val (.int (Int32.ofNat o)), .val (.int (Int32.ofNat len)), .val .null, .unset] [.ref s.heap.size])) := g8
  have c10 : Steps p.tables e below (s₁.setTop (entryFrame m #[.ref a, .ref b, .int (Int32.ofNat o), .int (Int32.ofNat len), .null] 6)) (T8.setTop (mkF m 45 #[.val (.ref a), .val (.ref b), .val (.int (Int32.ofNat o)), .val (.int (Int32.ofNat len)), .val .null, .val (.ref s.heap.size)] [.int (Int32.ofNat N.slots.size), .ref s.heap.size, .ref a])) := by
    have hc : Steps p.tables e below (s₁.setTop (entryFrame m #[.ref a, .ref b, .int (Int32.ofNat o), .int (Int32.ofNat len), .null] 6)) (T8.setTop (mkF m 45 #[.val (.ref a), .val (.ref b), .val (.int (Int32.ofNat o)), .val (.int (Int32.ofNat len)), .val .null, .val (.ref s.heap.size)] [.int (Int32.ofNat len), .ref s.heap.size, .ref a])) := c9.trans (by
      refine XS.astore X8.here hexec rfl (hb hbytes d39) rfl rfl rfl ?_
      refine XS.aloadN X8.here hexec rfl (hb hbytes d41) rfl rfl ?_
      refine XS.aload X8.here hexec rfl (hb hbytes d42) rfl rfl ?_
      refine XS.iloadN X8.here hexec rfl (hb hbytes d44) rfl ?_
      exact Steps.refl _)
    rw [n4]; exact hc
  obtain ⟨v11, T11, X11, E11, g11⟩ := X8.callS hexec (CodL.law l s.heap.size N) hown (wks W (staticW "java/lang/String" 47 CodL.yN)) (wk W CodL.tab) (W := 1) (Nat.le_of_ble_eq_true rfl) (Nat.le_of_ble_eq_true rfl) (Nat.le_refl _) (by show 0 + len + 0 ≤ len; omega) (g := (mkF m 45 #[.val (.ref a), .val (.ref b), .val (.int (Int32.ofNat o)), .val (.int (Int32.ofNat len)), .val .null, .val (.ref s.heap.size)] [.int (Int32.ofNat N.slots.size), .ref s.heap.size, .ref a])) rfl (by rw [hml]; rfl) c10 (argsL := [.ref s.heap.size, .int (Int32.ofNat N.slots.size)]) (rest := [.ref a]) rfl rfl (by show 2 * 0 + (1 + 0) ≤ _; decide) (hb hbytes d45) (⟨rfl, n1⟩)
  obtain ⟨rfl, q11⟩ := E11
  have hB11 := hB1.mv (X8.warmed.alike.symm.trans X11.warmed.alike) q11
  have c12 : Steps p.tables e below (s₁.setTop (entryFrame m #[.ref a, .ref b, .int (Int32.ofNat o), .int (Int32.ofNat len), .null] 6)) (T11.setTop (mkF m 48 #[.val (.ref a), .val (.ref b), .val (.int (Int32.ofNat o)), .val (.int (Int32.ofNat len)), .val .null, .val (.ref s.heap.size)] [.int 0, .ref a])) := g11
  obtain ⟨T13, X13, p13, bl13, sl13, st13⟩ := X11.finit hexec hown (wk W (.fieldLink "java/lang/String" 15 "java/lang/String" "coder" "B")) (Or.inr ⟨_, (wk W (.laysFinal "java/lang/String" "java/lang/String" "coder" "B"))⟩) (Or.inl ⟨rfl, hnm⟩) f2 (Or.inl rfl) hB11 (t := .byte) (by decide +kernel) rfl (g := (mkF m 48 #[.val (.ref a), .val (.ref b), .val (.int (Int32.ofNat o)), .val (.int (Int32.ofNat len)), .val .null, .val (.ref s.heap.size)] [.int 0, .ref a])) rfl (rest := []) rfl (hb hbytes d48)
  have c14 : Steps p.tables e below (s₁.setTop (entryFrame m #[.ref a, .ref b, .int (Int32.ofNat o), .int (Int32.ofNat len), .null] 6)) (T13.setTop (mkF m 54 #[.val (.ref a), .val (.ref b), .val (.int (Int32.ofNat o)), .val (.int (Int32.ofNat len)), .val .null, .val (.ref s.heap.size)] [.ref s.heap.size, .ref a])) := (c12.trans (st13 _ (Steps.refl _))).trans (by
    refine XS.aloadN X13.here hexec rfl (hb hbytes d51) rfl rfl ?_
    refine XS.aload X13.here hexec rfl (hb hbytes d52) rfl rfl ?_
    exact Steps.refl _)
  obtain ⟨T15, X15, p15, bl15, sl15, st15⟩ := X13.finit hexec hown (wk W (.fieldLink "java/lang/String" 9 "java/lang/String" "value" "[B")) (Or.inr ⟨_, (wk W (.laysFinal "java/lang/String" "java/lang/String" "value" "[B"))⟩) (Or.inl ⟨rfl, hnm⟩) f1 (Or.inl rfl) bl13 (t := (.array .byte)) (by decide +kernel) rfl (g := (mkF m 54 #[.val (.ref a), .val (.ref b), .val (.int (Int32.ofNat o)), .val (.int (Int32.ofNat len)), .val .null, .val (.ref s.heap.size)] [.ref s.heap.size, .ref a])) rfl (rest := []) rfl (hb hbytes d54)
  have c16 : Steps p.tables e below (s₁.setTop (entryFrame m #[.ref a, .ref b, .int (Int32.ofNat o), .int (Int32.ofNat len), .null] 6)) (T15.setTop (mkF m 57 #[.val (.ref a), .val (.ref b), .val (.int (Int32.ofNat o)), .val (.int (Int32.ofNat len)), .val .null, .val (.ref s.heap.size)] [])) := c14.trans (st15 _ (Steps.refl _))
  have ap := apart (Or.inr ⟨_, (wk W (.laysFinal "java/lang/String" "java/lang/String" "value" "[B"))⟩) (Or.inr ⟨_, (wk W (.laysFinal "java/lang/String" "java/lang/String" "coder" "B"))⟩) f1 f2 (t₁ := .array .byte) (t₂ := .byte) (by decide +kernel) (by decide +kernel) (by decide)
  have al := X8.warmed.alike.symm.trans X15.warmed.alike
  have n7 : T11.heap[s.heap.size]? = some N := by rw [q11]; exact n1.1
  exact ⟨T15, none, _, _, _, X15, by simp, rfl, by omega, (fun _ => rfl), ⟨rfl, _, N, bl15, ((Same.refl D _).set _ (by simp)).set _ (by simp), sl15, (Cell.slots_setSlot_ne _ ap).trans sl13, n1.keep al (p15.other hne (p13.other hne n7)), n2, by rw [al.findClass]; exact n3, n4, n5, fun y c h1 h2 => p15.other h1 (p13.other h1 (by rw [q11]; exact n6 y c h2)), by rw [p15.2.2, p13.2.2, q11]; exact z8⟩, fun fs hl => c16.trans (X15.returnOut hexec hret (hb hbytes d57) hl)⟩
end New4
namespace New1
def yN : MethodName := ⟨"java/lang/String", "<init>", "([C)V"⟩
abbrev yB : ByteArray := jdk_42_method_3_code
theorem d0 : decode yB 0 = .ok (.aload_n 0, 1) := by decide +kernel
theorem d1 : decode yB 1 = .ok (.aload_n 1, 1) := by decide +kernel
theorem d2 : decode yB 2 = .ok (.iconst 0, 1) := by decide +kernel
theorem d3 : decode yB 3 = .ok (.aload_n 1, 1) := by decide +kernel
theorem d4 : decode yB 4 = .ok (.arraylength, 1) := by decide +kernel
theorem d5 : decode yB 5 = .ok (.aconst_null, 1) := by decide +kernel
theorem d6 : decode yB 6 = .ok (.invokespecial 27, 3) := by decide +kernel
theorem d9 : decode yB 9 = .ok (.return_, 1) := by decide +kernel
def site : List Cond := [New4.tab] ++ initW "java/lang/String" 27 New4.yN
def tab : Cond := tabOf yN yB 2 none site
def P (a : Addr) (D : Cell) (fV fC : Field) (b : Addr) (A : Cell) (z : Int32) (args : Array Value) (s : State) : Prop := args = #[.ref a, .ref b] ∧ Blank "java/lang/String" a D s ∧ Found "java/lang/String" "value" "[B" fV s ∧ Found "java/lang/String" "coder" "B" fC s ∧ Ch b A s ∧ StaticIs s "java/lang/String" "COMPACT_STRINGS" "Z" (.int z) ∧ ¬ z = 0 ∧ 0 < A.slots.size ∧ A.slots.size ≤ 536870912 ∧ ∀ i, i < A.slots.size → ¬ 255 < cv A i
def E (a : Addr) (D : Cell) (fV fC : Field) (A : Cell) (r : Option Value) (s u : State) : Prop := Got a D fV fC A 0 A.slots.size r s u
/-- new String(chars), not empty, no char above 255: a Latin-1 String of their low bytes -/
theorem law (l : Launch) (a : Addr) (D : Cell) (fV fC : Field) (b : Addr) (A : Cell) (z : Int32) : Law l yN 2 1 3 52 yB 2 none site (P a D fV fC b A z) (E a D fV fC A) [⟨a, fC.slot⟩, ⟨a, fV.slot⟩] 1 A.slots.size := by
  refine Law.of_walk (plainFor_of_name (by decide +kernel)) (by decide +kernel) (by decide +kernel) (by decide) (fun _ _ h => by rw [h.1]; rfl) (fun _ U U' hal hh h => ⟨h.1, h.2.1.mv hal hh, h.2.2.1.al hal, h.2.2.2.1.al hal, h.2.2.2.2.1.mv hal hh, h.2.2.2.2.2.1.there hal hh, h.2.2.2.2.2.2⟩) (fun r U U' V V' h1 hal h2 h => Got.mv r U U' V V' h1 hal h2 h) ?_
  intro p e s m args below meth c s₁ X0 hexec hbytes hml hret hlk hnm hown hh0 W hP
  obtain ⟨rfl, hB, f1, f2, hA, s1, hz, l0, l2, hp⟩ := hP
  have c1 : Steps p.tables e below (s₁.setTop (entryFrame m #[.ref a, .ref b] 2)) (s₁.setTop (mkF m 0 #[.val (.ref a), .val (.ref b)] [])) := entry rfl
  have c2 : Steps p.tables e below (s₁.setTop (entryFrame m #[.ref a, .ref b] 2)) (s₁.setTop (mkF m 6 #[.val (.ref a), .val (.ref b)] [.null, .int (Int32.ofNat A.slots.size), .int 0, .ref b, .ref a])) := c1.trans (by
    refine XS.aloadN X0.here hexec rfl (hb hbytes d0) rfl rfl ?_
    refine XS.aloadN X0.here hexec rfl (hb hbytes d1) rfl rfl ?_
    refine iconstV X0.here hexec rfl 0 (hb hbytes d2) (by decide) ?_
    refine XS.aloadN X0.here hexec rfl (hb hbytes d3) rfl rfl ?_
    refine X0.alen hexec (hA.1.mv X0.warmed.alike hh0) rfl rfl (hb hbytes d4) ?_
    refine XS.aconstNull X0.here hexec rfl (hb hbytes d5) ?_
    exact Steps.refl _)
  obtain ⟨v3, T3, X3, E3, g3⟩ := X0.callN hexec (New4.law l a D fV fC b A z 0 A.slots.size) rfl hown (wks W (initW "java/lang/String" 27 New4.yN)) (W New4.tab (by simp only [site, List.mem_cons, List.mem_append, true_or, or_true])) (W := 0) (Nat.le_of_ble_eq_true rfl) (Nat.le_of_ble_eq_true rfl) (Nat.le_refl _) (by show 0 + A.slots.size ≤ A.slots.size; omega) (g := (mkF m 6 #[.val (.ref a), .val (.ref b)] [.null, .int (Int32.ofNat A.slots.size), .int (Int32.ofNat 0), .ref b, .ref a])) rfl (by rw [hml]; rfl) c2 (argsL := [.ref b, .int (Int32.ofNat 0), .int (Int32.ofNat A.slots.size), .null]) (rest := []) rfl rfl (by show 2 * 0 + 0 ≤ _; decide) (hb hbytes d6) (⟨rfl, hB.mv X0.warmed.alike hh0, f1.al X0.warmed.alike, f2.al X0.warmed.alike, hA.mv X0.warmed.alike hh0, s1.there X0.warmed.alike hh0, hz, l0, by omega, l2, fun i hi => by rw [Nat.zero_add]; exact hp i hi⟩)
  have e0 := Got.mv _ s₁ s _ _ hh0.symm (Vm.Alike.refl _) rfl E3
  obtain rfl := e0.1
  have c4 : Steps p.tables e below (s₁.setTop (entryFrame m #[.ref a, .ref b] 2)) (T3.setTop (mkF m 9 #[.val (.ref a), .val (.ref b)] [])) := g3
  exact ⟨T3, none, _, _, _, X3, by simp, rfl, by omega, (fun _ => rfl), e0, fun fs hl => c4.trans (X3.returnOut hexec hret (hb hbytes d9) hl)⟩
theorem pays {l : Launch} {R : Room} {p : Program} {e : Env} {below : List Frame} {s : State} {sargs : Array Value} {len W : Nat} (a : Addr) (D : Cell) (fV fC : Field) (b : Addr) (A : Cell) (z : Int32) (htab : tab.before sargs s = true) (hfr : 4 ≤ R.frames) (hlo : W + 65 ≤ R.locals) :
    Back l R p e below s sargs yN len W (fun A₁ a₁ => A₁.cells + 1 ≤ R.cells ∧ A₁.slots + A.slots.size ≤ R.slots ∧ P a D fV fC b A z a₁ A₁.U) (fun A₁ _ v₁ B₁ => E a D fV fC A v₁ A₁.U B₁.U ∧ B₁.locs = A₁.locs ++ [⟨a, fC.slot⟩, ⟨a, fV.slot⟩] ∧ B₁.cells = A₁.cells + 1 ∧ B₁.slots = A₁.slots + A.slots.size) :=
  (law l a D fV fC b A z).pays htab hfr (by omega)
end New1
/-- the byte, read back as charAt reads it, is the char -/
theorem lo8_mask {x : Int32} (h0 : ¬ x < 0) (h1 : ¬ 255 < x) : lo8 x &&& 255 = x := by
  have t : ∀ k : Fin 256, lo8 (Int32.ofNat k.val) &&& 255 = Int32.ofNat k.val := by decide +kernel
  rw [Int32.lt_iff_toInt_lt] at h0 h1
  have e0 : (0 : Int32).toInt = 0 := rfl
  have e1 : (255 : Int32).toInt = 255 := rfl
  obtain ⟨k, hk⟩ : ∃ k : Nat, x.toInt = k := ⟨x.toInt.toNat, by omega⟩
  have hx : x = Int32.ofNat k := Int32.toInt_inj.mp (by rw [hk, Int32.toInt_ofNat_small (by omega)])
  rw [hx]
  exact t ⟨k, by omega⟩
end StrChars
namespace StrChars.Road
open Jvm Sem ClassFile Op Lib Jvm.Stand Jvm.Free Jvm.Free.XT
open Jvm.Lib.Cold (StaticIs)
abbrev ST : String := "java/lang/String"
/-- every table word that New1's law asks, flat -/
abbrev words : List Jvm.Cond := [.code New1.yN New1.yB 2 none, .initialized ST, .methodLink ST 27 New4.yN, .instanceMethod New4.yN,
  .code New4.yN New4.yB 6 none, .fieldLink ST 38 ST "COMPACT_STRINGS" "Z", .laysFinal ST ST "value" "[B", .fieldLink ST 9 ST "value" "[B", .laysFinal ST ST "coder" "B", .fieldLink ST 15 ST "coder" "B",
  .methodLink ST 1 Lib.objectInit, .instanceMethod Lib.objectInit, .code Lib.objectInit ⟨#[0xb1]⟩ 1 none, .methodLink ST 177 Cmp3.yN, .static Cmp3.yN, .methodLink ST 47 CodL.yN, .static CodL.yN,
  .code Cmp3.yN Cmp3.yB 6 (some (.array .byte)), .initialized U16, .arrayClass .byte, .methodLink U16 115 Cmp5.yN, .static Cmp5.yN, .code Cmp5.yN Cmp5.yB 7 (some .int), .code CodL.yN CodL.yB 2 (some .byte)]
theorem tab_of {a : Array Value} {s : State} (h : ∀ w ∈ words, w.before a s = true) : New1.tab.before a s = true := by
  have h5 : Cmp5.tab.before a s = true := unparts (wk h (.code Cmp5.yN Cmp5.yB 7 (some .int))) (wks h (.initialized Cmp5.yN.cls :: Cmp5.site))
  have hc : CodL.tab.before a s = true := unparts (wk h (.code CodL.yN CodL.yB 2 (some .byte))) (wks h (.initialized CodL.yN.cls :: CodL.site))
  have q5 : ∀ w ∈ Cmp5.tab :: words, w.before a s = true := fun w hw => (List.mem_cons.mp hw).elim (fun e => e ▸ h5) (h w)
  have h3 : Cmp3.tab.before a s = true := unparts (wk q5 (.code Cmp3.yN Cmp3.yB 6 (some (.array .byte)))) (wks q5 (.initialized Cmp3.yN.cls :: Cmp3.site))
  have q3 : ∀ w ∈ Cmp3.tab :: CodL.tab :: words, w.before a s = true := fun w hw => (List.mem_cons.mp hw).elim (fun e => e ▸ h3) fun hw => (List.mem_cons.mp hw).elim (fun e => e ▸ hc) (h w)
  have h4 : New4.tab.before a s = true := unparts (wk q3 (.code New4.yN New4.yB 6 none)) (wks q3 (.initialized New4.yN.cls :: New4.site))
  have q4 : ∀ w ∈ New4.tab :: words, w.before a s = true := fun w hw => (List.mem_cons.mp hw).elim (fun e => e ▸ h4) (h w)
  exact unparts (wk q4 (.code New1.yN New1.yB 2 none)) (wks q4 (.initialized New1.yN.cls :: New1.site))
/-- the words ride from the start Z to the walk's own state -/
theorem moved {Z s : State} {a0 args : Array Value} (hZ : Z.Warmed39 s.vm) (hw : ∀ d ∈ words, d.before a0 Z = true) : ∀ d ∈ words, d.before args s = true := fun d hd => by
  have q := hw d hd
  have t : ∀ d ∈ words, d = .arrayClass .byte ∨ (d.onTables && d.keepsFace) = true := by decide +kernel
  rcases t d hd with rfl | t
  · exact RoadKit.mvA hZ q
  · exact RoadKit.mv hZ q t
/-- WHAT COMES BACK, over the tables of the start Z: h the heap at the call, h' behind it -/
def Q (Z : State) (x : Addr) (A : Cell) (h : Heap) (v : Option Value) (h' : Heap) (L : List Loc) : Prop := v = none ∧ (∀ y ∈ L, y.base = x) ∧ RoadKit.Keep h h' [x] ∧ h'.size = h.size + 1 ∧ RoadKit.Exa Z h' x ST ∧ RoadKit.Fld Z h' x ST "value" "[B" (.ref h.size) ∧ RoadKit.Fld Z h' x ST "coder" "B" (.int 0) ∧
  (∃ V : Cell, RoadKit.Arr Z h' h.size V .byte ∧ V.vm = .none ∧ Z.vm.findClass "[B" = some V.cls ∧ V.slots.size = A.slots.size ∧ ∀ j, j < A.slots.size → V.slots[j]? = some (.int (lo8 (cv A j)))) ∧
  ∀ (O n d : String) (w : Value), RoadKit.Fld Z h x O n d w → RoadKit.slotOf Z O n d ≠ RoadKit.slotOf Z ST "value" "[B" → RoadKit.slotOf Z O n d ≠ RoadKit.slotOf Z ST "coder" "B" → RoadKit.Fld Z h' x O n d w
/-- **new String(chars) AT A CALL, IN THE ROAD'S FORM**: for specialBack behind newO: x the fresh String, b the char[] with the cell A -/
theorem back {p : Program} {l : Launch} {e : Env} {R : Room} {s : State} {args : Array Value} {below : List Frame} {len W : Nat} {Z : State} {a0 : Array Value} {h : Heap} (hZ : Z.Warmed39 s.vm) (hw : ∀ d ∈ words, d.before a0 Z = true) {kI : Nat} (wi : (Jvm.Cond.instantiable ST kI).before a0 Z = true)
    {x b : Addr} {A : Cell} {z : Int32} {v0 c0 : Value} (E : RoadKit.Exa Z h x ST) (V : RoadKit.Fld Z h x ST "value" "[B" v0) (C : RoadKit.Fld Z h x ST "coder" "B" c0) (K : RoadKit.Arr Z h b A .char) (hty : Typed .char A) (S : RoadKit.Sta Z h ST "COMPACT_STRINGS" "Z" (.int z)) (hz : ¬ z = 0)
    (l0 : 0 < A.slots.size) (l2 : A.slots.size ≤ 536870912) (hp : ∀ i, i < A.slots.size → ¬ 255 < cv A i) (hfr : 4 ≤ R.frames) (hlo : W + 65 ≤ R.locals) :
    Back l R p e below s args New1.yN len W (fun P a => a = #[.ref x, .ref b] ∧ P.U.heap = h ∧ P.cells + 1 ≤ R.cells ∧ P.slots + A.slots.size ≤ R.slots)
      (fun P _ v B => ∃ L, Q Z x A h v B.U.heap L ∧ B.locs = P.locs ++ L ∧ B.cells = P.cells + 1 ∧ B.slots = P.slots + A.slots.size) := by
  intro m meth c P g ig mk a X hg hsize hdg hW hn hp'
  obtain ⟨rfl, rfl, r1, r2⟩ := hp'
  have al : Z.vm.Alike P.U.vm := hZ.alike.trans X.warmed.alike
  obtain ⟨D, cfV, kV, iV, fV, hD, gV, stV, knV, obV, asV, slV⟩ := id V
  obtain ⟨D', cfC, kC, iC, fC, hD', gC, stC, -, -, asC, slC⟩ := id C
  cases hD.symm.trans hD'
  obtain ⟨D2, kD, e1, e2, e3, e4, e5⟩ := id E
  cases hD.symm.trans e1
  obtain ⟨c2, k2, i1, i2, i3, -⟩ := Cond.instantiable_spec wi
  cases e2.symm.trans i1
  cases e3.symm.trans i2
  obtain ⟨kU, u1, u2⟩ := al.2.2 _ _ e3
  have hB : Blank ST x D P.U := ⟨hD, ⟨knV, fun q hq => by rw [hq] at obV; cases obV⟩, by rw [al.findClass]; exact e2, kU, u1, by rw [u2]; exact i3, by rw [u2]; exact e5 i3⟩
  have F1 : Found ST "value" "[B" fV P.U := ⟨SBG.found_only al ⟨cfV, kV, iV, gV⟩, stV⟩
  have F2 : Found ST "coder" "B" fC P.U := ⟨SBG.found_only al ⟨cfC, kC, iC, gC⟩, stC⟩
  have hA : Ch b A P.U := ⟨⟨K.1, State.isArrayOf_alike al K.2.1, K.2.2, by omega⟩, hty⟩
  have hS : StaticIs P.U ST "COMPACT_STRINGS" "Z" (.int z) := by
    obtain ⟨cfS, iS, kS, fS, st, cS, t1, t2, t3, t4, t5, t6, t7⟩ := S
    exact StaticIs.there (s := { Z with heap := P.U.heap }) ⟨cfS, iS, kS, fS, st, cS, t1, t2, t3, t4, t5, (fun q => by rw [q] at t6; cases t6), t7⟩ al rfl
  obtain ⟨v, B, X', ⟨⟨hv, E', V', q1, q2, q3, q4, q5, q6, q7, q8, q9, q10, q11⟩, hl, hc, hs⟩, st⟩ := New1.pays x D fV fC b A z (tab_of (moved hZ hw)) hfr hlo m meth c P g ig mk _ X hg hsize hdg hW hn ⟨r1, r2, rfl, hB, F1, F2, hA, hS, hz, l0, l2, hp⟩
  have al' : Z.vm.Alike B.U.vm := hZ.alike.trans X'.warmed.alike
  have hsz : E'.slots.size = D.slots.size := by
    obtain ⟨-, -, -, kB, w1, w2, w3⟩ := q1
    obtain ⟨kB', y1, y2⟩ := al'.2.2 _ _ e3
    rw [q2.2.1] at w1
    cases w1.symm.trans y1
    rw [w3, e5 i3, y2]
  refine ⟨v, B, X', ⟨_, ⟨hv, ?_, ⟨by omega, fun y cy hy hn' => q10 y cy (by simpa using hn') hy, fun y cy hy => ?_⟩, q11, ⟨E', _, q1.1, by rw [q2.2.1]; exact e2, by rw [q2.2.1]; exact e3, by rw [q2.1]; exact obV, fun _ => by rw [hsz]; exact e5 i3⟩,
    ⟨E', cfV, kV, iV, fV, q1.1, gV, stV, by rw [q2.1]; exact knV, by rw [q2.1]; exact obV, by rw [q2.2.1]; exact asV, q3⟩, ⟨E', cfC, kC, iC, fC, q1.1, gC, stC, by rw [q2.1]; exact knV, by rw [q2.1]; exact obV, by rw [q2.2.1]; exact asC, q4⟩,
    ⟨V', ⟨q5.1, State.isArrayOf_alike al'.symm q5.2.1, q5.2.2.1⟩, q6, by rw [← al'.findClass]; exact q7, q8, fun j hj => by have := q9 j hj; rwa [Nat.zero_add] at this⟩, fun O n d w F n1 n2 => ?_⟩, hl, hc, hs⟩, st⟩
  · intro y hy
    simp only [List.mem_cons, List.not_mem_nil, or_false] at hy
    rcases hy with rfl | rfl <;> rfl
  · by_cases q : y = x
    · subst q
      cases hD.symm.trans hy
      exact ⟨E', q1.1, q2.2.1, q2.1, hsz⟩
    · exact ⟨cy, q10 y cy q hy, rfl, rfl, rfl⟩
  · obtain ⟨D3, cf, k, i, f, g1, g2, g3, g4, g5, g6, g7⟩ := F
    cases hD.symm.trans g1
    simp only [RoadKit.slotOf, g2, gV, gC, Option.map_some, Option.getD_some] at n1 n2
    exact ⟨E', cf, k, i, f, q1.1, g2, g3, by rw [q2.1]; exact g4, by rw [q2.1]; exact g5, by rw [q2.2.1]; exact g6, by rw [q2.2.2 f.slot (by simp [n1, n2])]; exact g7⟩
end StrChars.Road
namespace StrChars.Road
open Jvm Sem ClassFile Op Lib Jvm.Stand Jvm.Free Jvm.Free.XT
/-- WHAT COMES BACK, the byte[] as a list of values -/
def QA (Z : State) (x : Addr) (zn : Int32) (cs : List Int32) (h : Heap) (v : Option Value) (h' : Heap) (L : List Loc) : Prop := v = none ∧ (∀ y ∈ L, y.base = x) ∧ RoadKit.Keep h h' [x] ∧ h'.size = h.size + 1 ∧ RoadKit.Exa Z h' x ST ∧ RoadKit.Fld Z h' x ST "value" "[B" (.ref h.size) ∧ RoadKit.Fld Z h' x ST "coder" "B" (.int 0) ∧
  (∃ kb, Z.vm.findClass "[B" = some kb ∧ RoadKit.Arv Z h' h.size kb .byte zn (cs.map fun c => .int (lo8 c)) (.int 0)) ∧
  ∀ (O n d : String) (w : Value), RoadKit.Fld Z h x O n d w → RoadKit.slotOf Z O n d ≠ RoadKit.slotOf Z ST "value" "[B" → RoadKit.slotOf Z O n d ≠ RoadKit.slotOf Z ST "coder" "B" → RoadKit.Fld Z h' x O n d w
/-- **new String(chars) AT A CALL, THE ARRAYS AS LISTS**: the char[] at b holds cs, not empty, no char above 255 -/
theorem backArv {p : Program} {l : Launch} {e : Env} {R : Room} {s : State} {args : Array Value} {below : List Frame} {len W : Nat} {Z : State} {a0 : Array Value} {h : Heap} (hZ : Z.Warmed39 s.vm) (hw : ∀ d ∈ words, d.before a0 Z = true) {kI : Nat} (wi : (Jvm.Cond.instantiable ST kI).before a0 Z = true)
    {x b : Addr} {k : ClassId} {zn z : Int32} {cs : List Int32} {dv v0 c0 : Value} (E : RoadKit.Exa Z h x ST) (V : RoadKit.Fld Z h x ST "value" "[B" v0) (C : RoadKit.Fld Z h x ST "coder" "B" c0) (K : RoadKit.Arv Z h b k .char zn (cs.map Value.int) dv) (S : RoadKit.Sta Z h ST "COMPACT_STRINGS" "Z" (.int z)) (hz : ¬ z = 0)
    (hlen : zn.toNatClampNeg = cs.length) (h0 : 0 < cs.length) (hbig : cs.length ≤ 536870912) (hall : ∀ c ∈ cs, ¬ 255 < c) (hfr : 4 ≤ R.frames) (hlo : W + 65 ≤ R.locals) :
    Back l R p e below s args New1.yN len W (fun P a => a = #[.ref x, .ref b] ∧ P.U.heap = h ∧ P.cells + 1 ≤ R.cells ∧ P.slots + cs.length ≤ R.slots)
      (fun P _ v B => ∃ L, QA Z x zn cs h v B.U.heap L ∧ B.locs = P.locs ++ L ∧ B.cells = P.cells + 1 ∧ B.slots = P.slots + cs.length) := by
  obtain ⟨A, K1, K2, K3, K4, K5, K6⟩ := K
  have e : A.slots.size = cs.length := K3.trans hlen
  have hat : ∀ (i : Nat) (hi : i < cs.length), A.slots[i]? = some (.int cs[i]) := fun i hi => by rw [K5 i (by omega)]; simp [List.getD_eq_getElem?_getD, hi]
  have hcv : ∀ (i : Nat) (hi : i < cs.length), cv A i = cs[i] := fun i hi => by unfold cv; rw [hat i hi]
  have hty : Typed .char A := fun i v hv => by
    have hi : i < A.slots.size := (Array.getElem?_eq_some_iff.mp hv).1
    have q := K5 i hi
    rw [hv] at q
    rw [Option.some.inj q]
    exact K6 i hi
  refine Back.mono (back hZ hw wi E V C K1 hty S hz (by omega) (by omega) (fun i hi => by rw [hcv i (by omega)]; exact hall _ (List.getElem_mem _)) hfr hlo) (fun P a hp => ⟨hp.1, hp.2.1, hp.2.2.1, by rw [e]; exact hp.2.2.2⟩) (fun P a v B hp hq => ?_)
  obtain ⟨L, ⟨q1, q2, q3, q4, q5, q6, q7, ⟨V', v1, v2, v3, v4, v5⟩, q9⟩, hl, hc, hs⟩ := hq
  refine ⟨L, ⟨q1, q2, q3, q4, q5, q6, q7, ⟨V'.cls, v3, V', v1, rfl, by rw [v4, e, hlen], K4, fun i hi => ?_, fun i hi => ?_⟩, q9⟩, hl, hc, by rw [hs, e]⟩
  · have hi' : i < cs.length := by omega
    rw [v5 i (by omega), hcv i hi']; simp [List.getD_eq_getElem?_getD, hi']
  · have hi' : i < cs.length := by omega
    simp only [List.getD_eq_getElem?_getD, List.getElem?_map, List.getElem?_eq_getElem hi', Option.map_some, Option.getD_some]
    exact fits_lo8 _
end StrChars.Road
namespace StrChars.Road
open Jvm Sem ClassFile Op Lib Jvm.Stand Jvm.Free Jvm.Free.XT
/-- WHAT COMES BACK, in the writer's own shape -/
def QV (Z : State) (x : Addr) (N : Int32) (bs : List Int32) (h : Heap) (n0 : Nat) (v : Option Value) (h' : Heap) (L : List Loc) : Prop := v = none ∧ RoadKit.Fr n0 L ∧ RoadKit.Keep h h' [x] ∧ RoadKit.Exa Z h' x ST ∧ RoadKit.Fld Z h' x ST "coder" "B" (.int 0) ∧
  ∃ (t : Addr) (kb : ClassId), n0 ≤ t ∧ h.size ≤ t ∧ ¬ t = x ∧ RoadKit.Fld Z h' x ST "value" "[B" (.ref t) ∧ RoadKit.Arv Z h' t kb .byte N (bs.map Value.int) (.int 0)
/-- **new String(chars) AT A CALL, FOR THE WRITER**: a char[] of n known ints, each 0 to 255 -/
theorem backV {p : Program} {l : Launch} {e : Env} {R : Room} {s : State} {args : Array Value} {below : List Frame} {len W : Nat} {Z : State} {a0 : Array Value} {h : Heap} (hZ : Z.Warmed39 s.vm) (hw : ∀ d ∈ words, d.before a0 Z = true) {kI : Nat} (wi : (Jvm.Cond.instantiable ST kI).before a0 Z = true)
    {x b : Addr} {kC : ClassId} {cs bs : List Int32} {d v0 c0 : Value} {z N : Int32} {n n0 : Nat} (hx0 : n0 ≤ x) (hh0 : n0 ≤ h.size) (E : RoadKit.Exa Z h x ST) (V : RoadKit.Fld Z h x ST "value" "[B" v0) (C : RoadKit.Fld Z h x ST "coder" "B" c0) (K : RoadKit.Arv Z h b kC .char N (cs.map Value.int) d) (S : RoadKit.Sta Z h ST "COMPACT_STRINGS" "Z" (.int z)) (hz : ¬ z = 0)
    (hn : cs.length = n) (hN : N = Int32.ofNat n) (l0 : 0 < n) (l2 : n ≤ 4000) (hp : ∀ c ∈ cs, ¬ c < 0 ∧ ¬ (255 : Int32) < c) (hb : bs = cs.map (fun c => c.toInt8.toInt32)) (hfr : 4 ≤ R.frames) (hlo : W + 65 ≤ R.locals) :
    Back l R p e below s args (⟨"java/lang/String", "<init>", "([C)V"⟩ : MethodName) len W (fun P a => a = #[.ref x, .ref b] ∧ P.U.heap = h ∧ P.cells + 1 ≤ R.cells ∧ P.slots + n ≤ R.slots)
      (fun P _ v B => ∃ L, QV Z x N bs h n0 v B.U.heap L ∧ B.locs = P.locs ++ L ∧ B.cells = P.cells + 1 ∧ B.slots = P.slots + n) := by
  subst hn hN hb
  refine Back.mono (backArv hZ hw wi E V C K S hz (n32 (by omega)) l0 (by omega) (fun c hc => (hp c hc).2) hfr hlo) (fun P a hp => hp) (fun P a v B hp hq => ?_)
  obtain ⟨L, ⟨q1, q2, q3, q4, q5, q6, q7, ⟨kb, v1, v2⟩, q9⟩, hl, hc, hs⟩ := hq
  exact ⟨L, ⟨q1, fun y hy => by rw [q2 y hy]; exact hx0, q3, q5, q7, h.size, kb, hh0, Nat.le_refl _, Nat.ne_of_gt E.lt, q6, by rw [List.map_map]; exact v2⟩, hl, hc, hs⟩
end StrChars.Road
namespace StrChars
open Jvm Sem ClassFile Op Lib Jvm.Stand Jvm.Free.XT Jvm.Free.ALB Jvm.Free.JM Jvm.Free
open Jvm.Lib.Cold (StaticIs)
def hi8 (x : Int32) : Int32 := lo8 (x >>> ((8 : Int32) &&& 31))
/-- what StringUTF16.getChar makes of two bytes -/
def pairCh (u v : Int32) : Int32 := (((u &&& 255) <<< ((0 : Int32) &&& 31)) ||| ((v &&& 255) <<< ((8 : Int32) &&& 31))).toUInt32.toUInt16.toUInt32.toInt32
theorem shr0 (c : Int32) : c >>> ((0 : Int32) &&& 31) = c := by
  have e : ((0 : Int32) &&& 31) = 0 := by decide
  rw [e]
  apply Int32.toBitVec_inj.mp
  rw [Int32.toBitVec_shiftRight]
  have e1 : ((0 : Int32).toBitVec.smod 32) = 0#32 := by decide
  rw [e1, BitVec.sshiftRight_eq']
  exact BitVec.sshiftRight_zero
theorem lo8_and (x : Int32) : (lo8 x &&& 255).toBitVec.toNat = x.toBitVec.toNat % 256 := by
  have h : (lo8 x).toBitVec = (x.toBitVec.signExtend 8).signExtend 32 := by rw [lo8, Int8.toBitVec_toInt32, Int32.toBitVec_toInt8]
  rw [Int32.toBitVec_and, BitVec.toNat_and, h]
  have e : ((x.toBitVec.signExtend 8).signExtend 32).toNat % 256 = x.toBitVec.toNat % 256 := by
    rw [BitVec.toNat_signExtend]
    have hlt := x.toBitVec.isLt
    simp only [BitVec.toNat_setWidth, BitVec.toNat_signExtend]
    split <;> split <;> omega
  rw [← e]
  exact Nat.and_two_pow_sub_one_eq_mod _ 8
theorem pair_says {c : Int32} (h0 : ¬ c < 0) (h1 : ¬ 65535 < c) : pairCh (lo8 c) (hi8 c) = c := by
  rw [Int32.lt_iff_toInt_lt] at h0 h1
  have e0 : (0 : Int32).toInt = 0 := rfl
  have e1 : (65535 : Int32).toInt = 65535 := rfl
  have hc : c.toInt = c.toBitVec.toNat := by
    have := c.toBitVec.isLt
    have e : c.toInt = c.toBitVec.toInt := rfl
    rw [e] at h0 h1
    rw [e]
    rw [BitVec.toInt_eq_toNat_cond] at h0 h1 ⊢
    split at h0 <;> split <;> omega
  have hn : c.toBitVec.toNat < 65536 := by omega
  have a1 := lo8_and c
  have a2 : (hi8 c &&& 255).toBitVec.toNat = c.toBitVec.toNat / 256 := by
    rw [hi8, lo8_and]
    have e : ((8 : Int32) &&& 31) = 8 := by decide
    rw [e, Int32.toBitVec_shiftRight]
    have e2 : ((8 : Int32).toBitVec.smod 32) = 8#32 := by decide
    rw [e2, BitVec.sshiftRight_eq', BitVec.toNat_sshiftRight_of_msb_false (by rw [BitVec.msb_eq_false_iff_two_mul_lt]; omega)]
    show c.toBitVec.toNat >>> 8 % 256 = _
    rw [Nat.shiftRight_eq_div_pow]
    omega
  unfold pairCh
  apply Int32.toBitVec_inj.mp
  apply BitVec.eq_of_toNat_eq
  have f0 : ((0 : Int32) &&& 31) = 0 := by decide
  have f8 : ((8 : Int32) &&& 31) = 8 := by decide
  rw [f0, f8]
  have g : (((lo8 c &&& 255) <<< (0 : Int32)) ||| ((hi8 c &&& 255) <<< (8 : Int32))).toBitVec.toNat = c.toBitVec.toNat := by
    rw [Int32.toBitVec_or, Int32.toBitVec_shiftLeft, Int32.toBitVec_shiftLeft]
    have s0 : ((0 : Int32).toBitVec.smod 32) = 0#32 := by decide
    have s8 : ((8 : Int32).toBitVec.smod 32) = 8#32 := by decide
    rw [s0, s8, BitVec.toNat_or]
    simp only [BitVec.shiftLeft_eq', BitVec.toNat_shiftLeft, a1, a2]
    show (c.toBitVec.toNat % 256) <<< 0 % 2 ^ 32 ||| (c.toBitVec.toNat / 256) <<< 8 % 2 ^ 32 = _
    rw [Nat.shiftLeft_zero, Nat.mod_eq_of_lt (show c.toBitVec.toNat % 256 < 2 ^ 32 by omega), Nat.mod_eq_of_lt (show (c.toBitVec.toNat / 256) <<< 8 < 2 ^ 32 by rw [Nat.shiftLeft_eq]; omega), Nat.or_comm, ← Nat.shiftLeft_add_eq_or_of_lt (by omega), Nat.shiftLeft_eq]
    omega
  show BitVec.toNat (((((lo8 c &&& 255) <<< (0 : Int32)) ||| ((hi8 c &&& 255) <<< (8 : Int32))).toBitVec.setWidth 16).setWidth 32) = _
  rw [BitVec.toNat_setWidth, BitVec.toNat_setWidth, g]
  omega
end StrChars
namespace StrChars
open Jvm Sem ClassFile Op Lib Jvm.Stand Jvm.Free.XT Jvm.Free.ALB Jvm.Free.JM Jvm.Free
open Jvm.Lib.Cold (StaticIs)
theorem shr1 {n : Nat} (h : 2 * n < 2 ^ 31) : Int32.ofNat (2 * n) >>> ((1 : Int32) &&& 31) = Int32.ofNat n := by
  have e : ((1 : Int32) &&& 31) = 1 := by decide
  rw [e]
  apply Int32.toBitVec_inj.mp
  rw [Int32.toBitVec_shiftRight]
  have e1 : ((1 : Int32).toBitVec.smod 32) = 1#32 := by decide
  have hm : (BitVec.ofNat 32 (2 * n)).toNat = 2 * n := by rw [BitVec.toNat_ofNat, Nat.mod_eq_of_lt (by omega)]
  rw [e1, BitVec.sshiftRight_eq']
  apply BitVec.eq_of_toNat_eq
  show ((BitVec.ofNat 32 (2 * n)).sshiftRight 1).toNat = (BitVec.ofNat 32 n).toNat
  rw [BitVec.toNat_sshiftRight_of_msb_false (by rw [BitVec.msb_eq_false_iff_two_mul_lt, hm]; omega), hm, BitVec.toNat_ofNat, Nat.shiftRight_eq_div_pow]
  omega
/-- charAt's cast of a byte read back -/
def chr8 (u : Int32) : Int32 := (u &&& 255).toUInt32.toUInt16.toUInt32.toInt32
theorem chr8_lo8 {c : Int32} (h0 : ¬ c < 0) (h1 : ¬ 255 < c) : chr8 (lo8 c) = c := by
  have t : ∀ k : Fin 256, (Int32.ofNat k.val).toUInt32.toUInt16.toUInt32.toInt32 = Int32.ofNat k.val := by decide +kernel
  unfold chr8
  rw [lo8_mask h0 h1]
  rw [Int32.lt_iff_toInt_lt] at h0 h1
  have e0 : (0 : Int32).toInt = 0 := rfl
  have e1 : (255 : Int32).toInt = 255 := rfl
  obtain ⟨k, hk⟩ : ∃ k : Nat, c.toInt = k := ⟨c.toInt.toNat, by omega⟩
  have hx : c = Int32.ofNat k := Int32.toInt_inj.mp (by rw [hk, Int32.toInt_ofNat_small (by omega)])
  rw [hx]
  exact t ⟨k, by omega⟩
theorem narrow_ch {c : Int32} (h0 : ¬ c < 0) (h1 : ¬ 65535 < c) : narrow .char (.int c) = .int c := by
  have q : narrow .char (.int (pairCh (lo8 c) (hi8 c))) = .int (pairCh (lo8 c) (hi8 c)) := narrow_c _
  rwa [pair_says h0 h1] at q
/-- the array's cell V codes the n chars f 0 .. f (n - 1) by the coder cd, as the JDK does: coder 1 just where some char is above 255 -/
def Cod (cd : Int32) (n : Nat) (f : Nat → Int32) (V : Cell) : Prop := (cd = 0 ∧ V.slots.size = n ∧ ∀ j, j < n → V.slots[j]? = some (.int (lo8 (f j))) ∧ ¬ 255 < f j) ∨ (cd = 1 ∧ V.slots.size = 2 * n ∧ (∀ j, j < n → V.slots[2 * j]? = some (.int (lo8 (f j))) ∧ V.slots[2 * j + 1]? = some (.int (hi8 (f j)))) ∧ ∃ j, j < n ∧ 255 < f j)
theorem Cod.cd {cd : Int32} {n : Nat} {f : Nat → Int32} {V : Cell} (h : Cod cd n f V) : cd = 0 ∨ cd = 1 := h.imp (fun q => q.1) fun q => q.1
theorem Cod.len {cd : Int32} {n : Nat} {f : Nat → Int32} {V : Cell} (h : Cod cd n f V) (hs : V.slots.size < 2 ^ 31) : Int32.ofNat V.slots.size >>> (cd &&& 31) = Int32.ofNat n := by
  rcases h with ⟨rfl, h, -⟩ | ⟨rfl, h, -⟩
  · rw [shr0, h]
  · rw [h, shr1 (by omega)]
/-- **x is a String of the n chars f 0 .. f (n - 1)**, Latin-1 or UTF-16; its array at t has the cell V -/
def Txt (x t : Addr) (V : Cell) (cd : Int32) (n : Nat) (f : Nat → Int32) (U : State) : Prop := Exact "java/lang/String" x U ∧ Has x "java/lang/String" "value" "[B" (.ref t) U ∧ Has x "java/lang/String" "coder" "B" (.int cd) U ∧ XT.Arr .byte t V U ∧ Cod cd n f V ∧ ∀ j, j < n → ¬ f j < 0 ∧ ¬ 65535 < f j
theorem Txt.mv {x t : Addr} {V : Cell} {cd : Int32} {n : Nat} {f : Nat → Int32} {U U' : State} (h : Txt x t V cd n f U) (hal : U.vm.Alike U'.vm) (hh : U'.heap = U.heap) : Txt x t V cd n f U' := ⟨h.1.mv hal hh, h.2.1.mv hal hh, h.2.2.1.mv hal hh, h.2.2.2.1.mv hal hh, h.2.2.2.2⟩
namespace Cdr
def yN : MethodName := ⟨"java/lang/String", "coder", "()B"⟩
abbrev yB : ByteArray := jdk_42_method_152_code
theorem d0 : decode yB 0 = .ok (.getstatic 38, 3) := by decide +kernel
theorem d3 : decode yB 3 = .ok (.ifCond (.eq) 10, 3) := by decide +kernel
theorem d6 : decode yB 6 = .ok (.aload_n 0, 1) := by decide +kernel
theorem d7 : decode yB 7 = .ok (.getfield 15, 3) := by decide +kernel
theorem d10 : decode yB 10 = .ok (.goto 4, 3) := by decide +kernel
theorem d14 : decode yB 14 = .ok (.ireturn, 1) := by decide +kernel
def site : List Cond := [.fieldLink "java/lang/String" 38 "java/lang/String" "COMPACT_STRINGS" "Z", .fieldLink "java/lang/String" 15 "java/lang/String" "coder" "B"]
def tab : Cond := tabOf yN yB 1 (some .byte) site
def P (x : Addr) (cd z : Int32) (args : Array Value) (s : State) : Prop := args = #[.ref x] ∧ Has x "java/lang/String" "coder" "B" (.int cd) s ∧ (cd = 0 ∨ cd = 1) ∧ StaticIs s "java/lang/String" "COMPACT_STRINGS" "Z" (.int z) ∧ ¬ z = 0
def E (cd : Int32) (r : Option Value) (s u : State) : Prop := XT.PureE (some (.int cd)) r s u
theorem law (l : Launch) (x : Addr) (cd z : Int32) : Law l yN 1 0 0 0 yB 1 (some .byte) site (P x cd z) (E cd) [] 0 0 := by
  refine Law.of_walk (plainFor_of_name (by decide +kernel)) (by decide +kernel) (by decide +kernel) (by decide) (fun _ _ h => by rw [h.1]; rfl) (fun _ U U' hal hh h => ⟨h.1, h.2.1.mv hal hh, h.2.2.1, h.2.2.2.1.there hal hh, h.2.2.2.2⟩) (fun r U U' V V' h1 hal h2 h => XT.PureE.mv r U U' V V' h1 hal h2 h) ?_
  intro p e s m args below meth c s₁ X0 hexec hbytes hml hret hlk hnm hown hh0 W hP
  obtain ⟨rfl, hx, hc, s1, hz⟩ := hP
  have c1 : Steps p.tables e below (s₁.setTop (entryFrame m #[.ref x] 1)) (s₁.setTop (mkF m 0 #[.val (.ref x)] [])) := entry rfl
  obtain ⟨T2, X2, q2, st2⟩ := X0.sget hexec hown (wk W (.fieldLink "java/lang/String" 38 "java/lang/String" "COMPACT_STRINGS" "Z")) s1 (fun _ _ h => by rw [hh0]; exact h) (g := (mkF m 0 #[.val (.ref x)] [])) rfl (hb hbytes d0)
  have hh2 := q2.trans hh0
  have c3 : Steps p.tables e below (s₁.setTop (entryFrame m #[.ref x] 1)) (T2.setTop (mkF m 7 #[.val (.ref x)] [.ref x])) := (c1.trans (st2 _ (Steps.refl _))).trans (by
    refine XS.ifNo X2.here hexec rfl (hb hbytes d3) rfl (i0_eq_f hz) ?_
    refine XS.aloadN X2.here hexec rfl (hb hbytes d6) rfl rfl ?_
    exact Steps.refl _)
  obtain ⟨T4, X4, q4, st4⟩ := X2.hget hexec hown (wk W (.fieldLink "java/lang/String" 15 "java/lang/String" "coder" "B")) (hx.mv X2.warmed.alike hh2) (g := (mkF m 7 #[.val (.ref x)] [.ref x])) rfl (rest := []) rfl (hb hbytes d7)
  have c5 : Steps p.tables e below (s₁.setTop (entryFrame m #[.ref x] 1)) (T4.setTop (mkF m 14 #[.val (.ref x)] [.int cd])) := (c3.trans (st4 _ (Steps.refl _))).trans (by
    refine XS.goto X4.here hexec rfl (pc0 := 10) rfl (hb hbytes d10) (by decide) rfl ?_
    exact Steps.refl _)
  exact ⟨T4, some (.int cd), _, _, _, X4, rfl, rfl, rfl, (fun h => by cases h), ⟨rfl, q4.trans hh2⟩, fun fs hl => c5.trans (X4.ireturnOut hexec hret (by rcases hc with rfl | rfl <;> rfl) (Or.inr (Or.inr (Or.inl rfl))) (hb hbytes d14) hl)⟩
end Cdr
namespace Len
def yN : MethodName := ⟨"java/lang/String", "length", "()I"⟩
abbrev yB : ByteArray := jdk_42_method_54_code
theorem d0 : decode yB 0 = .ok (.aload_n 0, 1) := by decide +kernel
theorem d1 : decode yB 1 = .ok (.getfield 9, 3) := by decide +kernel
theorem d4 : decode yB 4 = .ok (.arraylength, 1) := by decide +kernel
theorem d5 : decode yB 5 = .ok (.aload_n 0, 1) := by decide +kernel
theorem d6 : decode yB 6 = .ok (.invokevirtual 335, 3) := by decide +kernel
theorem d9 : decode yB 9 = .ok (.ishr, 1) := by decide +kernel
theorem d10 : decode yB 10 = .ok (.ireturn, 1) := by decide +kernel
def site : List Cond := [.fieldLink "java/lang/String" 9 "java/lang/String" "value" "[B", Cdr.tab] ++ virtW "java/lang/String" 335 "java/lang/String" Cdr.yN Cdr.yN
def tab : Cond := tabOf yN yB 1 (some .int) site
def P (x t : Addr) (V : Cell) (cd : Int32) (n : Nat) (f : Nat → Int32) (z : Int32) (args : Array Value) (s : State) : Prop := args = #[.ref x] ∧ Txt x t V cd n f s ∧ StaticIs s "java/lang/String" "COMPACT_STRINGS" "Z" (.int z) ∧ ¬ z = 0
def E (n : Nat) (r : Option Value) (s u : State) : Prop := XT.PureE (some (.int (Int32.ofNat n))) r s u
/-- length() of a String of n chars, in either coding -/
theorem law (l : Launch) (x t : Addr) (V : Cell) (cd : Int32) (n : Nat) (f : Nat → Int32) (z : Int32) : Law l yN 1 0 1 13 yB 1 (some .int) site (P x t V cd n f z) (E n) [] 0 0 := by
  refine Law.of_walk (plainFor_of_name (by decide +kernel)) (by decide +kernel) (by decide +kernel) (by decide) (fun _ _ h => by rw [h.1]; rfl) (fun _ U U' hal hh h => ⟨h.1, h.2.1.mv hal hh, h.2.2.1.there hal hh, h.2.2.2⟩) (fun r U U' V V' h1 hal h2 h => XT.PureE.mv r U U' V V' h1 hal h2 h) ?_
  intro p e s m args below meth c s₁ X0 hexec hbytes hml hret hlk hnm hown hh0 W hP
  obtain ⟨rfl, hx, s1, hz⟩ := hP
  have v31 := hx.2.2.2.1.2.2.2
  have c1 : Steps p.tables e below (s₁.setTop (entryFrame m #[.ref x] 1)) (s₁.setTop (mkF m 1 #[.val (.ref x)] [.ref x])) := Steps.trans (entry rfl) (by
    show Steps p.tables e below (s₁.setTop (mkF m 0 #[.val (.ref x)] [])) _
    refine XS.aloadN X0.here hexec rfl (hb hbytes d0) rfl rfl ?_
    exact Steps.refl _)
  obtain ⟨T2, X2, q2, st2⟩ := X0.hget hexec hown (wk W (.fieldLink "java/lang/String" 9 "java/lang/String" "value" "[B")) (hx.mv X0.warmed.alike hh0).2.1 (g := (mkF m 1 #[.val (.ref x)] [.ref x])) rfl (rest := []) rfl (hb hbytes d1)
  have hh2 := q2.trans hh0
  have hx2 := hx.mv X2.warmed.alike hh2
  have c3 : Steps p.tables e below (s₁.setTop (entryFrame m #[.ref x] 1)) (T2.setTop (mkF m 6 #[.val (.ref x)] [.ref x, .int (Int32.ofNat V.slots.size)])) := (c1.trans (st2 _ (Steps.refl _))).trans (by
    refine X2.alen hexec hx2.2.2.2.1 rfl rfl (hb hbytes d4) ?_
    refine XS.aloadN X2.here hexec rfl (hb hbytes d5) rfl rfl ?_
    exact Steps.refl _)
  obtain ⟨v4, T4, X4, E4, g4⟩ := X2.callV hexec (Cdr.law l x cd z) hown (wks W (virtW "java/lang/String" 335 "java/lang/String" Cdr.yN Cdr.yN)) rfl (by decide) (wk W Cdr.tab) (W := 1) (Nat.le_of_ble_eq_true rfl) (Nat.le_of_ble_eq_true rfl) (Nat.le_refl _) (Nat.le_refl _) (hx2.1.fc X2.warmed.alike) hx2.1.is (g := (mkF m 6 #[.val (.ref x)] [.ref x, .int (Int32.ofNat V.slots.size)])) rfl (by rw [hml]; rfl) c3 (argsL := []) (rest := [.int (Int32.ofNat V.slots.size)]) rfl rfl (by show 2 * 0 + (1 + 0) ≤ _; decide) (hb hbytes d6) (⟨rfl, hx2.2.2.1, hx.2.2.2.2.1.cd, s1.there X2.warmed.alike hh2, hz⟩)
  obtain ⟨rfl, q4⟩ := E4
  have c5 : Steps p.tables e below (s₁.setTop (entryFrame m #[.ref x] 1)) (T4.setTop (mkF m 10 #[.val (.ref x)] [.int (Int32.ofNat V.slots.size >>> (cd &&& 31))])) := Steps.trans g4 (by
    refine ishr X4.here hexec rfl (hb hbytes d9) rfl ?_
    exact Steps.refl _)
  rw [hx.2.2.2.2.1.len v31] at c5
  exact ⟨T4, some (.int (Int32.ofNat n)), _, _, _, X4, rfl, rfl, rfl, (fun h => by cases h), ⟨rfl, q4.trans hh2⟩, fun fs hl => c5.trans (X4.ireturnOut hexec hret rfl (Or.inl rfl) (hb hbytes d10) hl)⟩
theorem pays {l : Launch} {R : Room} {p : Program} {e : Env} {below : List Frame} {s : State} {sargs : Array Value} {len W : Nat} (x t : Addr) (V : Cell) (cd : Int32) (n : Nat) (f : Nat → Int32) (z : Int32) (htab : tab.before sargs s = true) (hfr : 2 ≤ R.frames) (hlo : W + 25 ≤ R.locals) :
    Back l R p e below s sargs yN len W (fun A₁ a₁ => A₁.cells + 0 ≤ R.cells ∧ A₁.slots + 0 ≤ R.slots ∧ P x t V cd n f z a₁ A₁.U) (fun A₁ _ v₁ B₁ => E n v₁ A₁.U B₁.U ∧ B₁.locs = A₁.locs ++ [] ∧ B₁.cells = A₁.cells + 0 ∧ B₁.slots = A₁.slots + 0) :=
  (law l x t V cd n f z).pays htab hfr (by omega)
end Len
namespace IsL
def yN : MethodName := ⟨"java/lang/String", "isLatin1", "()Z"⟩
abbrev yB : ByteArray := jdk_42_method_154_code
theorem d0 : decode yB 0 = .ok (.getstatic 38, 3) := by decide +kernel
theorem d3 : decode yB 3 = .ok (.ifCond (.eq) 14, 3) := by decide +kernel
theorem d6 : decode yB 6 = .ok (.aload_n 0, 1) := by decide +kernel
theorem d7 : decode yB 7 = .ok (.getfield 15, 3) := by decide +kernel
theorem d10 : decode yB 10 = .ok (.ifCond (.ne) 7, 3) := by decide +kernel
theorem d13 : decode yB 13 = .ok (.iconst 1, 1) := by decide +kernel
theorem d14 : decode yB 14 = .ok (.goto 4, 3) := by decide +kernel
theorem d17 : decode yB 17 = .ok (.iconst 0, 1) := by decide +kernel
theorem d18 : decode yB 18 = .ok (.ireturn, 1) := by decide +kernel
def site : List Cond := [.fieldLink "java/lang/String" 38 "java/lang/String" "COMPACT_STRINGS" "Z", .fieldLink "java/lang/String" 15 "java/lang/String" "coder" "B"]
def tab : Cond := tabOf yN yB 1 (some .boolean) site
def P (x : Addr) (cd z : Int32) (args : Array Value) (s : State) : Prop := args = #[.ref x] ∧ Has x "java/lang/String" "coder" "B" (.int cd) s ∧ (cd = 0 ∨ cd = 1) ∧ StaticIs s "java/lang/String" "COMPACT_STRINGS" "Z" (.int z) ∧ ¬ z = 0
def E (cd : Int32) (r : Option Value) (s u : State) : Prop := XT.PureE (some (.int (1 - cd))) r s u
theorem law (l : Launch) (x : Addr) (cd z : Int32) : Law l yN 1 0 0 0 yB 1 (some .boolean) site (P x cd z) (E cd) [] 0 0 := by
  refine Law.of_walk (plainFor_of_name (by decide +kernel)) (by decide +kernel) (by decide +kernel) (by decide) (fun _ _ h => by rw [h.1]; rfl) (fun _ U U' hal hh h => ⟨h.1, h.2.1.mv hal hh, h.2.2.1, h.2.2.2.1.there hal hh, h.2.2.2.2⟩) (fun r U U' V V' h1 hal h2 h => XT.PureE.mv r U U' V V' h1 hal h2 h) ?_
  intro p e s m args below meth c s₁ X0 hexec hbytes hml hret hlk hnm hown hh0 W hP
  obtain ⟨rfl, hx, hc, s1, hz⟩ := hP
  have c1 : Steps p.tables e below (s₁.setTop (entryFrame m #[.ref x] 1)) (s₁.setTop (mkF m 0 #[.val (.ref x)] [])) := entry rfl
  obtain ⟨T2, X2, q2, st2⟩ := X0.sget hexec hown (wk W (.fieldLink "java/lang/String" 38 "java/lang/String" "COMPACT_STRINGS" "Z")) s1 (fun _ _ h => by rw [hh0]; exact h) (g := (mkF m 0 #[.val (.ref x)] [])) rfl (hb hbytes d0)
  have hh2 := q2.trans hh0
  have c3 : Steps p.tables e below (s₁.setTop (entryFrame m #[.ref x] 1)) (T2.setTop (mkF m 7 #[.val (.ref x)] [.ref x])) := (c1.trans (st2 _ (Steps.refl _))).trans (by
    refine XS.ifNo X2.here hexec rfl (hb hbytes d3) rfl (i0_eq_f hz) ?_
    refine XS.aloadN X2.here hexec rfl (hb hbytes d6) rfl rfl ?_
    exact Steps.refl _)
  obtain ⟨T4, X4, q4, st4⟩ := X2.hget hexec hown (wk W (.fieldLink "java/lang/String" 15 "java/lang/String" "coder" "B")) (hx.mv X2.warmed.alike hh2) (g := (mkF m 7 #[.val (.ref x)] [.ref x])) rfl (rest := []) rfl (hb hbytes d7)
  have c5 : Steps p.tables e below (s₁.setTop (entryFrame m #[.ref x] 1)) (T4.setTop (mkF m 10 #[.val (.ref x)] [.int cd])) := c3.trans (st4 _ (Steps.refl _))
  have c6 : Steps p.tables e below (s₁.setTop (entryFrame m #[.ref x] 1)) (T4.setTop (mkF m 18 #[.val (.ref x)] [.int (1 - cd)])) := by
    rcases hc with rfl | rfl
    · exact c5.trans (by
        refine XS.ifNo X4.here hexec rfl (hb hbytes d10) rfl (i0_ne_f rfl) ?_
        refine iconstV X4.here hexec rfl 1 (hb hbytes d13) (by decide) ?_
        refine XS.goto X4.here hexec rfl (pc0 := 14) rfl (hb hbytes d14) (by decide) rfl ?_
        exact Steps.refl _)
    · exact c5.trans (by
        refine XS.ifYes X4.here hexec rfl (pc0 := 10) rfl (hb hbytes d10) rfl (i0_ne_t (by decide)) (by decide) rfl ?_
        refine iconstV X4.here hexec rfl 0 (hb hbytes d17) (by decide) ?_
        exact Steps.refl _)
  exact ⟨T4, some (.int (1 - cd)), _, _, _, X4, rfl, rfl, rfl, (fun h => by cases h), ⟨rfl, q4.trans hh2⟩, fun fs hl => c6.trans (X4.ireturnOut hexec hret (by rcases hc with rfl | rfl <;> rfl) (Or.inr (Or.inl rfl)) (hb hbytes d18) hl)⟩
end IsL
namespace LChA
def yN : MethodName := ⟨"java/lang/StringLatin1", "charAt", "([BI)C"⟩
abbrev yB : ByteArray := jdk_43_method_2_code
theorem d0 : decode yB 0 = .ok (.iload_n 1, 1) := by decide +kernel
theorem d1 : decode yB 1 = .ok (.aload_n 0, 1) := by decide +kernel
theorem d2 : decode yB 2 = .ok (.arraylength, 1) := by decide +kernel
theorem d3 : decode yB 3 = .ok (.invokestatic 9, 3) := by decide +kernel
theorem d6 : decode yB 6 = .ok (.aload_n 0, 1) := by decide +kernel
theorem d7 : decode yB 7 = .ok (.iload_n 1, 1) := by decide +kernel
theorem d8 : decode yB 8 = .ok (.baload, 1) := by decide +kernel
theorem d9 : decode yB 9 = .ok (.sipush 255, 3) := by decide +kernel
theorem d12 : decode yB 12 = .ok (.iand, 1) := by decide +kernel
theorem d13 : decode yB 13 = .ok (.i2c, 1) := by decide +kernel
theorem d14 : decode yB 14 = .ok (.ireturn, 1) := by decide +kernel
def site : List Cond := [JO.Str_checkIndex.tab] ++ staticW "java/lang/StringLatin1" 9 JO.Str_checkIndex.yN
def tab : Cond := tabOf yN yB 2 (some .char) site
def P (t : Addr) (V : Cell) (i : Nat) (u : Int32) (fm : Value) (args : Array Value) (s : State) : Prop := args = #[.ref t, .int (Int32.ofNat i)] ∧ XT.Arr .byte t V s ∧ V.slots[i]? = some (.int u) ∧ (StaticIs s "jdk/internal/util/Preconditions" "SIOOBE_FORMATTER" "Ljava/util/function/BiFunction;" fm ∧ fm.isRef = true)
def E (u : Int32) (r : Option Value) (s w : State) : Prop := XT.PureE (some (.int (chr8 u))) r s w
theorem law (l : Launch) (t : Addr) (V : Cell) (i : Nat) (u : Int32) (fm : Value) : Law l yN 2 2 2 27 yB 2 (some .char) site (P t V i u fm) (E u) [] 0 0 := by
  refine Law.of_walk (plainFor_of_name (by decide +kernel)) (by decide +kernel) (by decide +kernel) (by decide) (fun _ _ h => by rw [h.1]; rfl) (fun _ U U' hal hh h => ⟨h.1, h.2.1.mv hal hh, h.2.2.1, h.2.2.2.1.there hal hh, h.2.2.2.2⟩) (fun r U U' V V' h1 hal h2 h => XT.PureE.mv r U U' V V' h1 hal h2 h) ?_
  intro p e s m args below meth c s₁ X0 hexec hbytes hml hret hlk hnm hown hh0 W hP
  obtain ⟨rfl, hV, hu, s1, rf⟩ := hP
  have v31 := hV.2.2.2
  have hi : i < V.slots.size := (Array.getElem?_eq_some_iff.mp hu).1
  have c1 : Steps p.tables e below (s₁.setTop (entryFrame m #[.ref t, .int (Int32.ofNat i)] 2)) (s₁.setTop (mkF m 0 #[.val (.ref t), .val (.int (Int32.ofNat i))] [])) := entry rfl
  have c2 : Steps p.tables e below (s₁.setTop (entryFrame m #[.ref t, .int (Int32.ofNat i)] 2)) (s₁.setTop (mkF m 3 #[.val (.ref t), .val (.int (Int32.ofNat i))] [.int (Int32.ofNat V.slots.size), .int (Int32.ofNat i)])) := c1.trans (by
    refine XS.iloadN X0.here hexec rfl (hb hbytes d0) rfl ?_
    refine XS.aloadN X0.here hexec rfl (hb hbytes d1) rfl rfl ?_
    refine X0.alen hexec (hV.mv X0.warmed.alike hh0) rfl rfl (hb hbytes d2) ?_
    exact Steps.refl _)
  obtain ⟨v3, T3, X3, E3, g3⟩ := X0.callS hexec (JO.Str_checkIndex.law l (Int32.ofNat i) (Int32.ofNat V.slots.size) fm) hown (wks W (staticW "java/lang/StringLatin1" 9 JO.Str_checkIndex.yN)) (wk W JO.Str_checkIndex.tab) (W := 0) (Nat.le_of_ble_eq_true rfl) (Nat.le_of_ble_eq_true rfl) (Nat.le_refl _) (Nat.le_refl _) (g := (mkF m 3 #[.val (.ref t), .val (.int (Int32.ofNat i))] [.int (Int32.ofNat V.slots.size), .int (Int32.ofNat i)])) rfl (by rw [hml]; rfl) c2 (argsL := [.int (Int32.ofNat i), .int (Int32.ofNat V.slots.size)]) (rest := []) rfl rfl (by show 2 * 0 + 0 ≤ _; decide) (hb hbytes d3) (⟨rfl, rf, s1.there X0.warmed.alike hh0, Int32.ofNat_not_neg (by omega), lt32 v31 hi⟩)
  obtain ⟨rfl, q3⟩ := E3
  have hh3 := q3.trans hh0
  have c4 : Steps p.tables e below (s₁.setTop (entryFrame m #[.ref t, .int (Int32.ofNat i)] 2)) (T3.setTop (mkF m 14 #[.val (.ref t), .val (.int (Int32.ofNat i))] [.int (chr8 u)])) := Steps.trans g3 (by
    refine XS.aloadN X3.here hexec rfl (hb hbytes d6) rfl rfl ?_
    refine XS.iloadN X3.here hexec rfl (hb hbytes d7) rfl ?_
    refine X3.aget hexec (hV.mv X3.warmed.alike hh3) rfl hu rfl rfl (hb hbytes d8) ?_
    refine sipushV X3.here hexec rfl 255 (hb hbytes d9) (by decide) ?_
    refine XS.iand X3.here hexec rfl (hb hbytes d12) rfl ?_
    refine i2c X3.here hexec rfl (hb hbytes d13) rfl ?_
    exact Steps.refl _)
  exact ⟨T3, some (.int (chr8 u)), _, _, _, X3, rfl, rfl, rfl, (fun h => by cases h), ⟨rfl, hh3⟩, fun fs hl => c4.trans (X3.ireturnOut hexec hret (narrow_c _) (Or.inr (Or.inr (Or.inr (Or.inl rfl)))) (hb hbytes d14) hl)⟩
end LChA
end StrChars
namespace StrChars.Road
open Jvm Sem ClassFile Op Lib Jvm.Stand Jvm.Free Jvm.Free.XT
open Jvm.Lib.Cold (StaticIs)
theorem consq {a : Array Value} {s : State} {c : Jvm.Cond} {L : List Jvm.Cond} (h0 : c.before a s = true) (h : ∀ w ∈ L, w.before a s = true) : ∀ w ∈ c :: L, w.before a s = true := fun w hw => (List.mem_cons.mp hw).elim (fun e => e ▸ h0) (h w)
/-- the words of String.length(), either coding -/
abbrev wordsLen : List Jvm.Cond := [.code Len.yN Len.yB 1 (some .int), .initialized ST, .fieldLink ST 9 ST "value" "[B", .fieldLink ST 38 ST "COMPACT_STRINGS" "Z", .fieldLink ST 15 ST "coder" "B", .code Cdr.yN Cdr.yB 1 (some .byte), .methodLink ST 335 Cdr.yN, .declares Cdr.yN, .selects ST Cdr.yN Cdr.yN, .instanceMethod Cdr.yN]
theorem tabLen_of {a : Array Value} {s : State} (h : ∀ w ∈ wordsLen, w.before a s = true) : Len.tab.before a s = true := by
  have hc : Cdr.tab.before a s = true := unparts (wk h (.code Cdr.yN Cdr.yB 1 (some .byte))) (wks h (.initialized Cdr.yN.cls :: Cdr.site))
  have q := consq hc h
  exact unparts (wk q (.code Len.yN Len.yB 1 (some .int))) (wks q (.initialized Len.yN.cls :: Len.site))
theorem movedLen {Z s : State} {a0 args : Array Value} (hZ : Z.Warmed39 s.vm) (hw : ∀ d ∈ wordsLen, d.before a0 Z = true) : ∀ d ∈ wordsLen, d.before args s = true := fun d hd => by
  have q := hw d hd
  have t : ∀ d ∈ wordsLen, d = .arrayClass .byte ∨ (d.onTables && d.keepsFace) = true := by decide +kernel
  rcases t d hd with rfl | t
  · exact RoadKit.mvA hZ q
  · exact RoadKit.mv hZ q t
/-- the bytes of the chars cs, low before high -/
def wideBytes : List Int32 → List Value
  | [] => []
  | c :: cs => .int (lo8 c) :: .int (hi8 c) :: wideBytes cs
theorem wide_lo (d : Value) : ∀ (cs : List Int32) (j : Nat), j < cs.length → (wideBytes cs).getD (2 * j) d = .int (lo8 (cs.getD j 0))
  | [], j, h => absurd h (Nat.not_lt_zero j)
  | c :: cs, 0, _ => rfl
  | c :: cs, j + 1, h => by
    have q := wide_lo d cs j (by simpa using h)
    rw [show 2 * (j + 1) = 2 * j + 1 + 1 from by omega]
    simpa [wideBytes] using q
theorem wide_hi (d : Value) : ∀ (cs : List Int32) (j : Nat), j < cs.length → (wideBytes cs).getD (2 * j + 1) d = .int (hi8 (cs.getD j 0))
  | [], j, h => absurd h (Nat.not_lt_zero j)
  | c :: cs, 0, _ => rfl
  | c :: cs, j + 1, h => by
    have q := wide_hi d cs j (by simpa using h)
    rw [show 2 * (j + 1) + 1 = 2 * j + 1 + 1 + 1 from by omega]
    simpa [wideBytes] using q
theorem low_at (d : Value) (cs : List Int32) (j : Nat) (h : j < cs.length) : (cs.map fun c => Value.int (lo8 c)).getD j d = .int (lo8 (cs.getD j 0)) := by
  simp [List.getD_eq_getElem?_getD, h]
/-- an array of N2 bytes vs codes the chars cs by the coder cd -/
def CodA (cs : List Int32) (cd N2 : Int32) (vs : List Value) : Prop := (cd = 0 ∧ N2 = Int32.ofNat cs.length ∧ vs = (cs.map fun c => Value.int (lo8 c)) ∧ ∀ c ∈ cs, ¬ 255 < c) ∨ (cd = 1 ∧ N2 = Int32.ofNat (2 * cs.length) ∧ vs = wideBytes cs ∧ ∃ c ∈ cs, 255 < c)
theorem CodA.cod {cs : List Int32} {cd N2 : Int32} {vs : List Value} {V : Cell} (h : CodA cs cd N2 vs) (hn : 2 * cs.length < 2 ^ 31) (hs : V.slots.size = N2.toNatClampNeg) (hv : RoadKit.Has V vs (.int 0)) : Cod cd cs.length (fun j => cs.getD j 0) V := by
  rcases h with ⟨rfl, rfl, rfl, h⟩ | ⟨rfl, rfl, rfl, c, hc, hw⟩
  · rw [n32 (by omega)] at hs
    exact Or.inl ⟨rfl, hs, fun j hj => ⟨by rw [hv j (by omega), low_at _ _ _ hj], by
      have e : cs.getD j 0 = cs[j] := by simp [List.getD_eq_getElem?_getD, hj]
      show ¬ 255 < cs.getD j 0
      rw [e]; exact h _ (List.getElem_mem _)⟩⟩
  · rw [n32 (by omega)] at hs
    obtain ⟨j, hj, rfl⟩ := List.getElem_of_mem hc
    exact Or.inr ⟨rfl, hs, fun j hj => ⟨by rw [hv _ (by omega), wide_lo _ _ _ hj], by rw [hv _ (by omega), wide_hi _ _ _ hj]⟩, j, hj, by
      have e : cs.getD j 0 = cs[j] := by simp [List.getD_eq_getElem?_getD, hj]
      show 255 < cs.getD j 0
      rw [e]; exact hw⟩
/-- an object of exactly java/lang/String, its two fields found: as the laws ask it -/
theorem strObj {Z U : State} {a0 : Array Value} {kI : Nat} (wi : (Jvm.Cond.instantiable ST kI).before a0 Z = true) (al : Z.vm.Alike U.vm) {x : Addr} {v0 c0 : Value} (E : RoadKit.Exa Z U.heap x ST) (V : RoadKit.Fld Z U.heap x ST "value" "[B" v0) (C : RoadKit.Fld Z U.heap x ST "coder" "B" c0) :
    ∃ (D : Cell) (fV fC : Field), Blank ST x D U ∧ Found ST "value" "[B" fV U ∧ Found ST "coder" "B" fC U ∧ D.slots[fV.slot]? = some v0 ∧ D.slots[fC.slot]? = some c0 ∧ RoadKit.slotOf Z ST "value" "[B" = fV.slot ∧ RoadKit.slotOf Z ST "coder" "B" = fC.slot := by
  obtain ⟨D, cfV, kV, iV, fV, hD, gV, stV, knV, obV, asV, slV⟩ := V
  obtain ⟨D', cfC, kC, iC, fC, hD', gC, stC, -, -, asC, slC⟩ := C
  cases hD.symm.trans hD'
  obtain ⟨D2, kD, e1, e2, e3, e4, e5⟩ := E
  cases hD.symm.trans e1
  obtain ⟨c2, k2, i1, i2, i3, -⟩ := Cond.instantiable_spec wi
  cases e2.symm.trans i1
  cases e3.symm.trans i2
  obtain ⟨kU, u1, u2⟩ := al.2.2 _ _ e3
  exact ⟨D, fV, fC, ⟨hD, ⟨knV, fun q hq => by rw [hq] at obV; cases obV⟩, by rw [al.findClass]; exact e2, kU, u1, by rw [u2]; exact i3, by rw [u2]; exact e5 i3⟩, ⟨SBG.found_only al ⟨cfV, kV, iV, gV⟩, stV⟩, ⟨SBG.found_only al ⟨cfC, kC, iC, gC⟩, stC⟩, slV, slC, by simp [RoadKit.slotOf, gV], by simp [RoadKit.slotOf, gC]⟩
theorem sta_is {Z U : State} (al : Z.vm.Alike U.vm) {C n d : String} {v : Value} (S : RoadKit.Sta Z U.heap C n d v) : StaticIs U C n d v := by
  obtain ⟨cfS, iS, kS, fS, st, cS, t1, t2, t3, t4, t5, t6, t7⟩ := S
  exact StaticIs.there (s := { Z with heap := U.heap }) ⟨cfS, iS, kS, fS, st, cS, t1, t2, t3, t4, t5, (fun q => by rw [q] at t6; cases t6), t7⟩ al rfl
/-- **length() OF SUCH A STRING** -/
theorem lenW {p : Program} {l : Launch} {e : Env} {R : Room} {s : State} {args : Array Value} {below : List Frame} {len W : Nat} {Z : State} {a0 : Array Value} {h : Heap} (hZ : Z.Warmed39 s.vm) (hw : ∀ d ∈ wordsLen, d.before a0 Z = true) {kI : Nat} (wi : (Jvm.Cond.instantiable ST kI).before a0 Z = true)
    {x t : Addr} {kb : ClassId} {cs : List Int32} {cd N2 z : Int32} {vs : List Value} (E : RoadKit.Exa Z h x ST) (V : RoadKit.Fld Z h x ST "value" "[B" (.ref t)) (C : RoadKit.Fld Z h x ST "coder" "B" (.int cd)) (K : RoadKit.Arv Z h t kb .byte N2 vs (.int 0)) (hc : CodA cs cd N2 vs) (hb : ∀ c ∈ cs, ¬ c < 0 ∧ ¬ (65535 : Int32) < c)
    (S : RoadKit.Sta Z h ST "COMPACT_STRINGS" "Z" (.int z)) (hz : ¬ z = 0) (l2 : cs.length ≤ 4000) (hfr : 2 ≤ R.frames) (hlo : W + 25 ≤ R.locals) :
    Back l R p e below s args (⟨"java/lang/String", "length", "()I"⟩ : MethodName) len W (fun P a => a = #[.ref x] ∧ P.U.heap = h ∧ P.cells + 0 ≤ R.cells ∧ P.slots + 0 ≤ R.slots)
      (fun P _ v B => ∃ L, (v = some (.int (Int32.ofNat cs.length)) ∧ L = [] ∧ B.U.heap = h) ∧ B.locs = P.locs ++ L ∧ B.cells = P.cells + 0 ∧ B.slots = P.slots + 0) := by
  obtain ⟨A, K1, K2, K3, K4, K5, K6⟩ := K
  have hcod := hc.cod (by omega) K3 K5
  intro m meth c P g ig mk a X hg hsize hdg hW hn hp'
  obtain ⟨rfl, rfl, r1, r2⟩ := hp'
  have al : Z.vm.Alike P.U.vm := hZ.alike.trans X.warmed.alike
  obtain ⟨D, fV, fC, hB, F1, F2, g1, g2, -, -⟩ := strObj wi al E V C
  have hx : Txt x t A cd cs.length (fun j => cs.getD j 0) P.U := ⟨⟨_, hB.2.2.1, D, hB.1, rfl, by cases q : D.vm <;> first | rfl | exact absurd q (hB.2.1.2 _)⟩, Has.of hB F1 g1, Has.of hB F2 g2, ⟨K1.1, State.isArrayOf_alike al K1.2.1, K1.2.2, by rcases hcod with ⟨-, q, -⟩ | ⟨-, q, -⟩ <;> omega⟩, hcod, fun j hj => by
    have e : cs.getD j 0 = cs[j] := by simp [List.getD_eq_getElem?_getD, hj]
    show ¬ cs.getD j 0 < 0 ∧ ¬ 65535 < cs.getD j 0
    rw [e]; exact hb _ (List.getElem_mem _)⟩
  obtain ⟨v, B, X', ⟨⟨hv, hh⟩, hl, hk, hs⟩, st⟩ := Len.pays x t A cd cs.length (fun j => cs.getD j 0) z (tabLen_of (movedLen hZ hw)) hfr hlo m meth c P g ig mk _ X hg hsize hdg hW hn ⟨r1, r2, rfl, hx, sta_is al S, hz⟩
  exact ⟨v, B, X', ⟨[], ⟨hv, rfl, hh⟩, hl, hk, hs⟩, st⟩
end StrChars.Road
namespace StrChars.Road
open Jvm Sem ClassFile Op Lib Jvm.Stand Jvm.Free Jvm.Free.XT
open Jvm.Lib.Cold (StaticIs)
/-- the road's facts of a String, as the laws ask it -/
theorem txt_of {Z U : State} {a0 : Array Value} {kI : Nat} (wi : (Jvm.Cond.instantiable ST kI).before a0 Z = true) (al : Z.vm.Alike U.vm) {x t : Addr} {kb : ClassId} {cs : List Int32} {cd N2 : Int32} {vs : List Value} (E : RoadKit.Exa Z U.heap x ST) (V : RoadKit.Fld Z U.heap x ST "value" "[B" (.ref t)) (C : RoadKit.Fld Z U.heap x ST "coder" "B" (.int cd)) (K : RoadKit.Arv Z U.heap t kb .byte N2 vs (.int 0)) (hc : CodA cs cd N2 vs) (hb : ∀ c ∈ cs, ¬ c < 0 ∧ ¬ (65535 : Int32) < c) (l2 : cs.length ≤ 4000) :
    ∃ A, Txt x t A cd cs.length (fun j => cs.getD j 0) U := by
  obtain ⟨A, K1, K2, K3, K4, K5, K6⟩ := K
  have hcod := hc.cod (by omega) K3 K5
  obtain ⟨D, fV, fC, hB, F1, F2, g1, g2, -, -⟩ := strObj wi al E V C
  exact ⟨A, ⟨_, hB.2.2.1, D, hB.1, rfl, by cases q : D.vm <;> first | rfl | exact absurd q (hB.2.1.2 _)⟩, Has.of hB F1 g1, Has.of hB F2 g2, ⟨K1.1, State.isArrayOf_alike al K1.2.1, K1.2.2, by rcases hcod with ⟨-, q, -⟩ | ⟨-, q, -⟩ <;> omega⟩, hcod, fun j hj => by
    have e : cs.getD j 0 = cs[j] := by simp [List.getD_eq_getElem?_getD, hj]
    show ¬ cs.getD j 0 < 0 ∧ ¬ 65535 < cs.getD j 0
    rw [e]; exact hb _ (List.getElem_mem _)⟩
end StrChars.Road
namespace StrChars
open Jvm Sem ClassFile Op Lib Jvm.Stand Jvm.Free.XT Jvm.Free.ALB Jvm.Free.JM Jvm.Free
open Jvm.Lib.Cold (StaticIs)
namespace ChN
def yN : MethodName := ⟨"java/lang/String", "charAt", "(I)C"⟩
abbrev yB : ByteArray := jdk_42_method_56_code
theorem d0 : decode yB 0 = .ok (.aload_n 0, 1) := by decide +kernel
theorem d1 : decode yB 1 = .ok (.invokevirtual 492, 3) := by decide +kernel
theorem d4 : decode yB 4 = .ok (.ifCond (.eq) 12, 3) := by decide +kernel
theorem d7 : decode yB 7 = .ok (.aload_n 0, 1) := by decide +kernel
theorem d8 : decode yB 8 = .ok (.getfield 9, 3) := by decide +kernel
theorem d11 : decode yB 11 = .ok (.iload_n 1, 1) := by decide +kernel
theorem d12 : decode yB 12 = .ok (.invokestatic 495, 3) := by decide +kernel
theorem d15 : decode yB 15 = .ok (.ireturn, 1) := by decide +kernel
def site : List Cond := [.fieldLink "java/lang/String" 9 "java/lang/String" "value" "[B", IsL.tab, LChA.tab] ++ virtW "java/lang/String" 492 "java/lang/String" IsL.yN IsL.yN ++ staticW "java/lang/String" 495 LChA.yN
def tab : Cond := tabOf yN yB 2 (some .char) site
def P (x t : Addr) (V : Cell) (n : Nat) (f : Nat → Int32) (z : Int32) (fm : Value) (i : Nat) (args : Array Value) (s : State) : Prop := args = #[.ref x, .int (Int32.ofNat i)] ∧ Txt x t V 0 n f s ∧ i < n ∧ StaticIs s "java/lang/String" "COMPACT_STRINGS" "Z" (.int z) ∧ ¬ z = 0 ∧ StaticIs s "jdk/internal/util/Preconditions" "SIOOBE_FORMATTER" "Ljava/util/function/BiFunction;" fm ∧ fm.isRef = true
def E (f : Nat → Int32) (i : Nat) (r : Option Value) (s u : State) : Prop := XT.PureE (some (.int (f i))) r s u
/-- charAt(i) of a Latin-1 String of n chars, i < n: f i -/
theorem law (l : Launch) (x t : Addr) (V : Cell) (n : Nat) (f : Nat → Int32) (z : Int32) (fm : Value) (i : Nat) : Law l yN 2 1 3 40 yB 2 (some .char) site (P x t V n f z fm i) (E f i) [] 0 0 := by
  refine Law.of_walk (plainFor_of_name (by decide +kernel)) (by decide +kernel) (by decide +kernel) (by decide) (fun _ _ h => by rw [h.1]; rfl) (fun _ U U' hal hh h => ⟨h.1, h.2.1.mv hal hh, h.2.2.1, h.2.2.2.1.there hal hh, h.2.2.2.2.1, h.2.2.2.2.2.1.there hal hh, h.2.2.2.2.2.2⟩) (fun r U U' V V' h1 hal h2 h => XT.PureE.mv r U U' V V' h1 hal h2 h) ?_
  intro p e s m args below meth c s₁ X0 hexec hbytes hml hret hlk hnm hown hh0 W hP
  obtain ⟨rfl, hx, hi, s1, hz, s3, rf⟩ := hP
  have v31 := hx.2.2.2.1.2.2.2
  have hr := hx.2.2.2.2.2 i hi
  have hx0 := hx.mv X0.warmed.alike hh0
  have c1 : Steps p.tables e below (s₁.setTop (entryFrame m #[.ref x, .int (Int32.ofNat i)] 2)) (s₁.setTop (mkF m 1 #[.val (.ref x), .val (.int (Int32.ofNat i))] [.ref x])) := Steps.trans (entry rfl) (by
    show Steps p.tables e below (s₁.setTop (mkF m 0 #[.val (.ref x), .val (.int (Int32.ofNat i))] [])) _
    refine XS.aloadN X0.here hexec rfl (hb hbytes d0) rfl rfl ?_
    exact Steps.refl _)
  obtain ⟨v2, T2, X2, E2, g2⟩ := X0.callV hexec (IsL.law l x 0 z) hown (wks W (virtW "java/lang/String" 492 "java/lang/String" IsL.yN IsL.yN)) rfl (by decide) (wk W IsL.tab) (W := 0) (Nat.le_of_ble_eq_true rfl) (Nat.le_of_ble_eq_true rfl) (Nat.le_refl _) (Nat.le_refl _) (hx0.1.fc X0.warmed.alike) hx0.1.is (g := (mkF m 1 #[.val (.ref x), .val (.int (Int32.ofNat i))] [.ref x])) rfl (by rw [hml]; rfl) c1 (argsL := []) (rest := []) rfl rfl (by show 2 * 0 + 0 ≤ _; decide) (hb hbytes d1) (⟨rfl, hx0.2.2.1, hx.2.2.2.2.1.cd, s1.there X0.warmed.alike hh0, hz⟩)
  obtain ⟨rfl, q2⟩ := E2
  have hh2 := q2.trans hh0
  have hx2 := hx.mv X2.warmed.alike hh2
  obtain ⟨-, k1, k2⟩ | ⟨k0, -⟩ := hx.2.2.2.2.1
  · have c3 : Steps p.tables e below (s₁.setTop (entryFrame m #[.ref x, .int (Int32.ofNat i)] 2)) (T2.setTop (mkF m 8 #[.val (.ref x), .val (.int (Int32.ofNat i))] [.ref x])) := Steps.trans g2 (by
      refine XS.ifNo X2.here hexec rfl (hb hbytes d4) rfl (i0_eq_f (by decide)) ?_
      refine XS.aloadN X2.here hexec rfl (hb hbytes d7) rfl rfl ?_
      exact Steps.refl _)
    obtain ⟨T4, X4, q4, st4⟩ := X2.hget hexec hown (wk W (.fieldLink "java/lang/String" 9 "java/lang/String" "value" "[B")) hx2.2.1 (g := (mkF m 8 #[.val (.ref x), .val (.int (Int32.ofNat i))] [.ref x])) rfl (rest := []) rfl (hb hbytes d8)
    have hh4 := q4.trans hh2
    have c5 : Steps p.tables e below (s₁.setTop (entryFrame m #[.ref x, .int (Int32.ofNat i)] 2)) (T4.setTop (mkF m 12 #[.val (.ref x), .val (.int (Int32.ofNat i))] [.int (Int32.ofNat i), .ref t])) := (c3.trans (st4 _ (Steps.refl _))).trans (by
      refine XS.iloadN X4.here hexec rfl (hb hbytes d11) rfl ?_
      exact Steps.refl _)
    obtain ⟨v6, T6, X6, E6, g6⟩ := X4.callS hexec (LChA.law l t V i (lo8 (f i)) fm) hown (wks W (staticW "java/lang/String" 495 LChA.yN)) (wk W LChA.tab) (W := 0) (Nat.le_of_ble_eq_true rfl) (Nat.le_of_ble_eq_true rfl) (Nat.le_refl _) (Nat.le_refl _) (g := (mkF m 12 #[.val (.ref x), .val (.int (Int32.ofNat i))] [.int (Int32.ofNat i), .ref t])) rfl (by rw [hml]; rfl) c5 (argsL := [.ref t, .int (Int32.ofNat i)]) (rest := []) rfl rfl (by show 2 * 0 + 0 ≤ _; decide) (hb hbytes d12) (⟨rfl, hx.2.2.2.1.mv X4.warmed.alike hh4, (k2 i hi).1, s3.there X4.warmed.alike hh4, rf⟩)
    obtain ⟨rfl, q6⟩ := E6
    rw [chr8_lo8 hr.1 (k2 i hi).2] at g6
    exact ⟨T6, some (.int (f i)), _, _, _, X6, rfl, rfl, rfl, (fun h => by cases h), ⟨rfl, q6.trans hh4⟩, fun fs hl => Steps.trans g6 (X6.ireturnOut hexec hret (narrow_ch hr.1 hr.2) (Or.inr (Or.inr (Or.inr (Or.inl rfl)))) (hb hbytes d15) hl)⟩
  · exact absurd k0 (by decide)
theorem pays {l : Launch} {R : Room} {p : Program} {e : Env} {below : List Frame} {s : State} {sargs : Array Value} {len W : Nat} (x t : Addr) (V : Cell) (n : Nat) (f : Nat → Int32) (z : Int32) (fm : Value) (i : Nat) (htab : tab.before sargs s = true) (hfr : 4 ≤ R.frames) (hlo : W + 53 ≤ R.locals) :
    Back l R p e below s sargs yN len W (fun A₁ a₁ => A₁.cells + 0 ≤ R.cells ∧ A₁.slots + 0 ≤ R.slots ∧ P x t V n f z fm i a₁ A₁.U) (fun A₁ _ v₁ B₁ => E f i v₁ A₁.U B₁.U ∧ B₁.locs = A₁.locs ++ [] ∧ B₁.cells = A₁.cells + 0 ∧ B₁.slots = A₁.slots + 0) :=
  (law l x t V n f z fm i).pays htab hfr (by omega)
end ChN
end StrChars
namespace StrChars.Road
open Jvm Sem ClassFile Op Lib Jvm.Stand Jvm.Free Jvm.Free.XT
open Jvm.Lib.Cold (StaticIs)
/-- the words of String.charAt(int), the Latin-1 road alone -/
abbrev wordsChN : List Jvm.Cond := [.code ChN.yN ChN.yB 2 (some .char), .initialized ST, .fieldLink ST 9 ST "value" "[B", .fieldLink ST 38 ST "COMPACT_STRINGS" "Z", .fieldLink ST 15 ST "coder" "B", .code IsL.yN IsL.yB 1 (some .boolean), .methodLink ST 492 IsL.yN, .declares IsL.yN, .selects ST IsL.yN IsL.yN, .instanceMethod IsL.yN,
  .methodLink ST 495 LChA.yN, .static LChA.yN, .code LChA.yN LChA.yB 2 (some .char), .initialized "java/lang/StringLatin1", .methodLink "java/lang/StringLatin1" 9 JO.Str_checkIndex.yN, .static JO.Str_checkIndex.yN, .code JO.Str_checkIndex.yN JO.Str_checkIndex.yB 2 none,
  .fieldLink ST 1053 "jdk/internal/util/Preconditions" "SIOOBE_FORMATTER" "Ljava/util/function/BiFunction;", .methodLink ST 1059 JC.PreCheck.yN, .static JC.PreCheck.yN, .code JC.PreCheck.yN JC.PreCheck.yB 3 (some .int), .initialized "jdk/internal/util/Preconditions"]
theorem tabChN_of {a : Array Value} {s : State} (h : ∀ w ∈ wordsChN, w.before a s = true) : ChN.tab.before a s = true := by
  have hp : JC.PreCheck.tab.before a s = true := unparts (wk h (.code JC.PreCheck.yN JC.PreCheck.yB 3 (some .int))) (wks h (.initialized JC.PreCheck.yN.cls :: JC.PreCheck.site))
  have qk := consq hp h
  have hk : JO.Str_checkIndex.tab.before a s = true := unparts (wk qk (.code JO.Str_checkIndex.yN JO.Str_checkIndex.yB 2 none)) (wks qk (.initialized JO.Str_checkIndex.yN.cls :: JO.Str_checkIndex.site))
  have ql := consq hk h
  have hl : LChA.tab.before a s = true := unparts (wk ql (.code LChA.yN LChA.yB 2 (some .char))) (wks ql (.initialized LChA.yN.cls :: LChA.site))
  have hi : IsL.tab.before a s = true := unparts (wk h (.code IsL.yN IsL.yB 1 (some .boolean))) (wks h (.initialized IsL.yN.cls :: IsL.site))
  have q := consq hi (consq hl h)
  exact unparts (wk q (.code ChN.yN ChN.yB 2 (some .char))) (wks q (.initialized ChN.yN.cls :: ChN.site))
theorem movedChN {Z s : State} {a0 args : Array Value} (hZ : Z.Warmed39 s.vm) (hw : ∀ d ∈ wordsChN, d.before a0 Z = true) : ∀ d ∈ wordsChN, d.before args s = true := fun d hd => by
  have t : ∀ d ∈ wordsChN, (d.onTables && d.keepsFace) = true := by decide +kernel
  exact RoadKit.mv hZ (hw d hd) (t d hd)
/-- **charAt(i) OF A LATIN-1 STRING**, i < n: the char -/
theorem chN {p : Program} {l : Launch} {e : Env} {R : Room} {s : State} {args : Array Value} {below : List Frame} {len W : Nat} {Z : State} {a0 : Array Value} {h : Heap} (hZ : Z.Warmed39 s.vm) (hw : ∀ d ∈ wordsChN, d.before a0 Z = true) {kI : Nat} (wi : (Jvm.Cond.instantiable ST kI).before a0 Z = true)
    {x t : Addr} {kb : ClassId} {cs : List Int32} {N2 z : Int32} {vs : List Value} {fm : Value} {i : Nat} {j : Int32} (E : RoadKit.Exa Z h x ST) (V : RoadKit.Fld Z h x ST "value" "[B" (.ref t)) (C : RoadKit.Fld Z h x ST "coder" "B" (.int 0)) (K : RoadKit.Arv Z h t kb .byte N2 vs (.int 0)) (hc : CodA cs 0 N2 vs) (hb : ∀ c ∈ cs, ¬ c < 0 ∧ ¬ (65535 : Int32) < c)
    (S : RoadKit.Sta Z h ST "COMPACT_STRINGS" "Z" (.int z)) (hz : ¬ z = 0) (F : RoadKit.Sta Z h "jdk/internal/util/Preconditions" "SIOOBE_FORMATTER" "Ljava/util/function/BiFunction;" fm) (rf : fm.isRef = true) (l2 : cs.length ≤ 4000) (hi : i < cs.length) (hj : j = Int32.ofNat i) (hfr : 4 ≤ R.frames) (hlo : W + 53 ≤ R.locals) :
    Back l R p e below s args (⟨"java/lang/String", "charAt", "(I)C"⟩ : MethodName) len W (fun P a => a = #[.ref x, .int j] ∧ P.U.heap = h ∧ P.cells + 0 ≤ R.cells ∧ P.slots + 0 ≤ R.slots)
      (fun P _ v B => ∃ L, (v = some (.int (cs.getD i 0)) ∧ L = [] ∧ B.U.heap = h) ∧ B.locs = P.locs ++ L ∧ B.cells = P.cells + 0 ∧ B.slots = P.slots + 0) := by
  subst hj
  intro m meth c P g ig mk a X hg hsize hdg hW hn hp'
  obtain ⟨rfl, rfl, r1, r2⟩ := hp'
  have al : Z.vm.Alike P.U.vm := hZ.alike.trans X.warmed.alike
  obtain ⟨A, hx⟩ := txt_of wi al E V C K hc hb l2
  obtain ⟨v, B, X', ⟨⟨hv, hh⟩, hl, hk, hs⟩, st⟩ := ChN.pays x t A cs.length (fun j => cs.getD j 0) z fm i (tabChN_of (movedChN hZ hw)) hfr hlo m meth c P g ig mk _ X hg hsize hdg hW hn ⟨r1, r2, rfl, hx, hi, sta_is al S, hz, sta_is al F, rf⟩
  exact ⟨v, B, X', ⟨[], ⟨hv, rfl, hh⟩, hl, hk, hs⟩, st⟩
/-- what backV says of its String, as the contracts of this text ask it: cs's low bytes, coder 0 -/
theorem codOf {cs : List Int32} {n : Nat} (hn : cs.length = n) (hb : ∀ c ∈ cs, ¬ 255 < c) : CodA cs 0 (Int32.ofNat n) ((cs.map lo8).map Value.int) := Or.inl ⟨rfl, by rw [hn], by simp [List.map_map, Function.comp_def], hb⟩
end StrChars.Road
end Jvm.Pilot.@@N@@

namespace Jvm.Pilot.@@N@@
open Jvm Jvm.ClassFile Sem Op Lib Jvm.Free Jvm.Stand Jvm.LawKit Jvm.RoadKit Bundle Jvm.Pilot.@@N@@.Jvm.D
theorem own_selpriv {s : State} {args : Array Value} {y : MethodName} {n : Nat} (hins : (Jvm.Cond.instantiable y.cls n).before args s = true) (hpriv : (Jvm.Cond.privateMethod y).before args s = true) (hinst : (Jvm.Cond.instanceMethod y).before args s = true) (hy : y.cls ≠ "java/lang/invoke/MethodHandle" ∧ y.cls ≠ "java/lang/invoke/VarHandle") :
    (Jvm.Cond.selects y.cls y y).before args s = true := by
  obtain ⟨c, k, hc, hk, -, hniab, -, -⟩ := Cond.instantiable_spec hins
  have hni : k.isInterface = false := (Bool.or_eq_false_iff.mp hniab).1
  obtain ⟨mk, methM, hnamed, hmethM, -, -⟩ := Cond.instanceMethod_spec hinst
  have hfound : s.methodFound? y.cls y.name y.desc = some mk := State.methodFound?_of_named hnamed hy
  have hcls : mk.cls = c := Option.some.inj ((findClass_of_methodNamed hnamed).symm.trans hc)
  have hsel : selectMethod {} s.vm c mk = .method mk := selectMethod_private hmethM (Cond.privateMethod_at hpriv mk methM hnamed hmethM)
  simp only [Cond.before, Cond.holds, Cond.value, hc, hfound, hnamed, hsel, hcls, hk]
  simp; exact hni
theorem own_nsE {Z : State} {h : Heap} {a : Addr} {C : String} (F : Exa Z h a C) : ∀ c : Cell, h[a]? = some c → c.vm.isStatics = false := by
  obtain ⟨c, k, h1, -, -, h4, -⟩ := F
  intro c' hc; cases h1.symm.trans hc; exact h4
theorem own_nsV {Z : State} {h : Heap} {a : Addr} {k : ClassId} {ty : FieldType} {z : Int32} {vs : List Value} {dv : Value} (F : Arv Z h a k ty z vs dv) : ∀ c : Cell, h[a]? = some c → c.vm.isStatics = false := by
  obtain ⟨c, A, -⟩ := F
  intro c' hc; cases A.1.symm.trans hc; exact A.plain
theorem own_stakeep {Z : State} {h h' : Heap} {C n d : String} {v : Value} {ws : List Addr} (F : Sta Z h C n d v) (K : Keep h h' ws) (q : ∀ x ∈ ws, ∀ c : Cell, h[x]? = some c → c.vm.isStatics = false) : Sta Z h' C n d v := by
  obtain ⟨cf, i, k, f, st, cell, h1, h2, h3, h4, h5, h6, h7⟩ := F
  refine ⟨cf, i, k, f, st, cell, h1, h2, h3, h4, K.2.1 _ _ h5 (fun hm => ?_), h6, h7⟩
  rw [q st hm cell h5] at h6; cases h6
theorem own_ex {args : Array Value} {s : State} {t : Term} {C : String} (h : (Jvm.Cond.exactly t C).value args s none s [] = some true) : ∃ a, t.eval args s none [] s = some (.ref a) ∧ Exa s s.heap a C := by
  obtain ⟨a, e1⟩ := exa_v h; exact ⟨a, e1, Exa.start e1 h⟩
theorem own_evI {args : Array Value} {s : State} {t : Term} {z : Int32} (h : (Jvm.Cond.eq t (.int z)).value args s none s [] = some true) : t.eval args s none [] s = some (.int z) := by
  cases hv : t.eval args s none [] s with
  | none => simp [Cond.value, hv] at h
  | some x => cases x <;> simp [Cond.value, Term.eval, hv] at h ⊢; exact h
theorem own_evJ {args : Array Value} {s : State} {t : Term} {z : Int64} (h : (Jvm.Cond.eq t (.long z)).value args s none s [] = some true) : t.eval args s none [] s = some (.long z) := by
  cases hv : t.eval args s none [] s with
  | none => simp [Cond.value, hv] at h
  | some x => cases x <;> simp [Cond.value, Term.eval, hv] at h ⊢; exact h
theorem own_fldV {args : Array Value} {s : State} {t : Term} {a : Addr} {C n d : String} {v : Value} (ev : t.eval args s none [] s = some (.ref a)) (h : (Term.field t C n d).eval args s none [] s = some v) : Fld s s.heap a C n d v := by
  refine Fld.start ?_
  rw [← fld_at (args := args) (first := s) (o := none) (idx := []) ev]; exact h
theorem own_lt (a b : Int32) : a < b ↔ a.toInt < b.toInt := Int32.lt_iff_toInt_lt
theorem own_le (a b : Int32) : a ≤ b ↔ a.toInt ≤ b.toInt := Int32.le_iff_toInt_le
theorem own_eqi (a b : Int32) : a = b ↔ a.toInt = b.toInt := Int32.toInt_inj.symm
theorem own_ltL (a b : Int64) : a < b ↔ a.toInt < b.toInt := Int64.lt_iff_toInt_lt
theorem own_eqL (a b : Int64) : a = b ↔ a.toInt = b.toInt := Int64.toInt_inj.symm
theorem own_evR {args : Array Value} {s : State} {t u : Term} {a : Addr} (h : (Jvm.Cond.eq t u).value args s none s [] = some true) (hu : u.eval args s none [] s = some (.ref a)) : t.eval args s none [] s = some (.ref a) := by
  cases hv : t.eval args s none [] s with
  | none => simp [Cond.value, hv] at h
  | some x => cases x <;> simp [Cond.value, hu, hv] at h ⊢; exact h
theorem own_len {args : Array Value} {s : State} {t : Term} {a : Addr} {cl : Cell} {z : Int32} (ev : t.eval args s none [] s = some (.ref a)) (hc : s.arrayAt? a = some cl) (h : (Term.length t).eval args s none [] s = some (.int z)) : cl.slots.size < 2 ^ 31 ∧ cl.slots.size.toInt32 = z := by
  by_cases q : cl.slots.size < 2147483648
  · simp [Term.eval, ev, hc, q] at h; exact ⟨q, h⟩
  · simp [Term.eval, ev, hc, q] at h
theorem own_pos (x : Int32) : 0 ≤ (x &&& (2147483647 : Int32)).toInt ∧ (x &&& (2147483647 : Int32)).toInt < 2147483648 := by
  have h := c_mask x 2147483647 31 (by decide) (by decide)
  rw [h]; omega
theorem own_mod6 (x : Int32) : (x &&& (2147483647 : Int32)) % (6 : Int32) = (0 : Int32) ∨ (x &&& (2147483647 : Int32)) % (6 : Int32) = (1 : Int32) ∨ (x &&& (2147483647 : Int32)) % (6 : Int32) = (2 : Int32) ∨ (x &&& (2147483647 : Int32)) % (6 : Int32) = (3 : Int32) ∨ (x &&& (2147483647 : Int32)) % (6 : Int32) = (4 : Int32) ∨ (x &&& (2147483647 : Int32)) % (6 : Int32) = (5 : Int32) := by
  have h := own_pos x
  have q := (c_irem (x &&& (2147483647 : Int32)) (6 : Int32) 6 rfl).1 h.1
  simp only [own_eqi]
  rw [q]
  rw [show (0 : Int32).toInt = 0 from rfl, show (1 : Int32).toInt = 1 from rfl, show (2 : Int32).toInt = 2 from rfl, show (3 : Int32).toInt = 3 from rfl, show (4 : Int32).toInt = 4 from rfl, show (5 : Int32).toInt = 5 from rfl]
  omega

theorem own_sub_backV : ∀ d ∈ StrChars.Road.words, d ∈ tables_1 := by decide +kernel
theorem own_sub_lenW : ∀ d ∈ StrChars.Road.wordsLen, d ∈ tables_1 := by decide +kernel
theorem own_sub_chN : ∀ d ∈ StrChars.Road.wordsChN, d ∈ tables_1 := by decide +kernel
theorem own_ofn (j : Int32) (h0 : ¬ j < 0) : j = Int32.ofNat j.toNatClampNeg := (back32 h0).1.symm
theorem own_ilt {j : Int32} {c0 c1 c2 c3 c4 c5 : Int32} (h0 : ¬ j < 0) (h1 : j < (6 : Int32)) : j.toNatClampNeg < ([c0, c1, c2, c3, c4, c5] : List Int32).length := by
  show j.toNatClampNeg < 6
  simp only [own_lt, show (0 : Int32).toInt = 0 from rfl, show (6 : Int32).toInt = 6 from rfl] at *
  simp only [Int32.toNatClampNeg]; omega
def own_get6 (x0 x1 x2 x3 x4 x5 j : Int32) : Int32 := if j = (0 : Int32) then x0 else if j = (1 : Int32) then x1 else if j = (2 : Int32) then x2 else if j = (3 : Int32) then x3 else if j = (4 : Int32) then x4 else x5
theorem own_six (j : Int32) (h0 : ¬ j < 0) (h1 : j < (6 : Int32)) : j = 0 ∨ j = 1 ∨ j = 2 ∨ j = 3 ∨ j = 4 ∨ j = 5 := by
  simp only [own_lt, own_eqi, show (0 : Int32).toInt = 0 from rfl, show (1 : Int32).toInt = 1 from rfl, show (2 : Int32).toInt = 2 from rfl, show (3 : Int32).toInt = 3 from rfl, show (4 : Int32).toInt = 4 from rfl, show (5 : Int32).toInt = 5 from rfl, show (6 : Int32).toInt = 6 from rfl] at *
  omega
theorem own_getD6 (x0 x1 x2 x3 x4 x5 j : Int32) (h0 : ¬ j < 0) (h1 : j < (6 : Int32)) : ([x0, x1, x2, x3, x4, x5] : List Int32).getD j.toNatClampNeg 0 = own_get6 x0 x1 x2 x3 x4 x5 j := by
  rcases own_six j h0 h1 with rfl | rfl | rfl | rfl | rfl | rfl <;> rfl
theorem own_has6 {c : Cell} {x0 x1 x2 x3 x4 x5 j : Int32} {d : Value} (H : Has c [.int x0, .int x1, .int x2, .int x3, .int x4, .int x5] d) (hin : ¬ (j < 0 ∨ c.slots.size ≤ j.toNatClampNeg)) (h0 : ¬ j < 0) (h1 : j < (6 : Int32)) : c.slots[j.toNatClampNeg]? = some (.int (own_get6 x0 x1 x2 x3 x4 x5 j)) := by
  rcases own_six j h0 h1 with rfl | rfl | rfl | rfl | rfl | rfl <;> exact Has.at H hin rfl
def own_up (x v i j : Int32) : Int32 := if j = i then v else x
theorem own_set6 {Z : State} {h h' : Heap} {a : Addr} {c : Cell} {k : ClassId} {ty : FieldType} {z x0 x1 x2 x3 x4 x5 j v : Int32} {d : Value} (A : Arr Z h a c ty) (q1 : c.cls = k) (S : c.slots.size = z.toNatClampNeg) (q3 : ¬ z < 0) (H : Has c [.int x0, .int x1, .int x2, .int x3, .int x4, .int x5] d) (G : ∀ i, i < c.slots.size → fits ty (([.int x0, .int x1, .int x2, .int x3, .int x4, .int x5] : List Value).getD i d) = true) (hv : fits ty (.int v) = true) (W : Wr h h' a j.toNatClampNeg (.int v)) (h0 : ¬ j < 0) (h1 : j < (6 : Int32)) :
    Arv Z h' a k ty z [.int (own_up x0 v 0 j), .int (own_up x1 v 1 j), .int (own_up x2 v 2 j), .int (own_up x3 v 3 j), .int (own_up x4 v 4 j), .int (own_up x5 v 5 j)] d := by
  rcases own_six j h0 h1 with rfl | rfl | rfl | rfl | rfl | rfl
  · exact Arv.set A q1 S q3 H G hv W 0 rfl (Nat.le_of_ble_eq_true rfl)
  · exact Arv.set A q1 S q3 H G hv W 1 rfl (Nat.le_of_ble_eq_true rfl)
  · exact Arv.set A q1 S q3 H G hv W 2 rfl (Nat.le_of_ble_eq_true rfl)
  · exact Arv.set A q1 S q3 H G hv W 3 rfl (Nat.le_of_ble_eq_true rfl)
  · exact Arv.set A q1 S q3 H G hv W 4 rfl (Nat.le_of_ble_eq_true rfl)
  · exact Arv.set A q1 S q3 H G hv W 5 rfl (Nat.le_of_ble_eq_true rfl)
theorem own_u16 {cs : List Int32} (hp : ∀ c ∈ cs, ¬ c < 0 ∧ ¬ (255 : Int32) < c) : ∀ c ∈ cs, ¬ c < 0 ∧ ¬ (65535 : Int32) < c := fun c hc => by
  have q := hp c hc
  simp only [own_lt, show (255 : Int32).toInt = 255 from rfl, show (65535 : Int32).toInt = 65535 from rfl] at *
  omega
theorem own_nn (i : Int32) (h0 : ¬ i < (0 : Int32)) (h1 : i < (6 : Int32)) : ¬ ((i + (1 : Int32)) < (0 : Int32)) ∧ (i + (1 : Int32)).toInt = i.toInt + 1 := by
  have c1 := c_iadd i 1
  have r1 := rng32 (i + 1)
  simp only [own_lt, show (0 : Int32).toInt = 0 from rfl, show (1 : Int32).toInt = 1 from rfl, show (6 : Int32).toInt = 6 from rfl] at *
  omega
theorem own_nnm (i : Int32) (h0 : ¬ i < (0 : Int32)) (h6 : ¬ (6 : Int32) < i) : (i + (1 : Int32)).toInt = i.toInt + 1 := by
  have c1 := c_iadd i 1
  have r1 := rng32 (i + 1)
  simp only [own_lt, show (0 : Int32).toInt = 0 from rfl, show (1 : Int32).toInt = 1 from rfl, show (6 : Int32).toInt = 6 from rfl] at *
  omega
theorem own_l6 (i : Int32) (h0 : ¬ i < (0 : Int32)) (h6 : ¬ (6 : Int32) < i) (h1 : (i + (1 : Int32)) < (6 : Int32)) : i < (6 : Int32) := by
  have c1 := own_nnm i h0 h6
  simp only [own_lt, show (0 : Int32).toInt = 0 from rfl, show (6 : Int32).toInt = 6 from rfl] at *
  omega
theorem own_no7 (p : Int32) (h0 : ¬ p < (0 : Int32)) (a1 : p < (6 : Int32)) (a2 : (p + (1 : Int32)) < (6 : Int32)) (a3 : ((p + (1 : Int32)) + (1 : Int32)) < (6 : Int32)) (a4 : (((p + (1 : Int32)) + (1 : Int32)) + (1 : Int32)) < (6 : Int32)) (a5 : ((((p + (1 : Int32)) + (1 : Int32)) + (1 : Int32)) + (1 : Int32)) < (6 : Int32)) (a6 : (((((p + (1 : Int32)) + (1 : Int32)) + (1 : Int32)) + (1 : Int32)) + (1 : Int32)) < (6 : Int32)) : ¬ ((((((p + (1 : Int32)) + (1 : Int32)) + (1 : Int32)) + (1 : Int32)) + (1 : Int32)) + (1 : Int32)) < (6 : Int32) := by
  have n1 := own_nn _ h0 a1
  have n2 := own_nn _ n1.1 a2
  have n3 := own_nn _ n2.1 a3
  have n4 := own_nn _ n3.1 a4
  have n5 := own_nn _ n4.1 a5
  have n6 := own_nn _ n5.1 a6
  simp only [own_lt, show (0 : Int32).toInt = 0 from rfl, show (6 : Int32).toInt = 6 from rfl] at *
  omega
theorem own_le6 {z : Int32} (h : z < (6 : Int32)) : ¬ (6 : Int32) < z := by
  simp only [own_lt, show (6 : Int32).toInt = 6 from rfl] at *
  omega
theorem own_narC (x : Int32) (h : ¬ x < 0 ∧ ¬ (255 : Int32) < x) : nar .char x = x := by
  have c1 := c_i2c x
  show x.toUInt32.toUInt16.toUInt32.toInt32 = x
  simp only [own_lt, own_eqi, show (0 : Int32).toInt = 0 from rfl, show (255 : Int32).toInt = 255 from rfl] at *
  omega
theorem own_nar2 (x : Int32) : nar .char x.toUInt32.toUInt16.toUInt32.toInt32 = x.toUInt32.toUInt16.toUInt32.toInt32 := by
  have c1 := c_i2c x
  have c2 := c_i2c x.toUInt32.toUInt16.toUInt32.toInt32
  show x.toUInt32.toUInt16.toUInt32.toInt32.toUInt32.toUInt16.toUInt32.toInt32 = _
  rw [own_eqi]; omega
theorem pn_0 : plainName "com/example/oyster/oyster/engine/LiteralsNumberEndPinLaw" = true := by first | (simp [plainName, overriddenIn]; done) | decide +kernel
theorem d1_0 : decode method_5_code 0 = .ok (.iload_n 0, 1) := by decide +kernel
theorem d1_1 : decode method_5_code 1 = .ok (.iconst 3, 1) := by decide +kernel
theorem d1_2 : decode method_5_code 2 = .ok (.iand, 1) := by decide +kernel
theorem d1_3 : decode method_5_code 3 = .ok (.istore_n 1, 1) := by decide +kernel
theorem d1_4 : decode method_5_code 4 = .ok (.iload_n 0, 1) := by decide +kernel
theorem d1_5 : decode method_5_code 5 = .ok (.iconst 2, 1) := by decide +kernel
theorem d1_6 : decode method_5_code 6 = .ok (.iushr, 1) := by decide +kernel
theorem d1_7 : decode method_5_code 7 = .ok (.istore_n 2, 1) := by decide +kernel
theorem d1_8 : decode method_5_code 8 = .ok (.iload_n 1, 1) := by decide +kernel
theorem d1_9 : decode method_5_code 9 = .ok (.ifCond .ne 12, 3) := by decide +kernel
theorem d1_12 : decode method_5_code 12 = .ok (.bipush 48, 2) := by decide +kernel
theorem d1_14 : decode method_5_code 14 = .ok (.iload_n 2, 1) := by decide +kernel
theorem d1_15 : decode method_5_code 15 = .ok (.bipush 10, 2) := by decide +kernel
theorem d1_17 : decode method_5_code 17 = .ok (.irem, 1) := by decide +kernel
theorem d1_18 : decode method_5_code 18 = .ok (.iadd, 1) := by decide +kernel
theorem d1_19 : decode method_5_code 19 = .ok (.i2c, 1) := by decide +kernel
theorem d1_20 : decode method_5_code 20 = .ok (.ireturn, 1) := by decide +kernel
theorem d1_21 : decode method_5_code 21 = .ok (.iload_n 1, 1) := by decide +kernel
theorem d1_22 : decode method_5_code 22 = .ok (.iconst 1, 1) := by decide +kernel
theorem d1_23 : decode method_5_code 23 = .ok (.if_icmp .ne 6, 3) := by decide +kernel
theorem d1_26 : decode method_5_code 26 = .ok (.bipush 46, 2) := by decide +kernel
theorem d1_28 : decode method_5_code 28 = .ok (.ireturn, 1) := by decide +kernel
theorem d1_29 : decode method_5_code 29 = .ok (.iload_n 2, 1) := by decide +kernel
theorem d1_30 : decode method_5_code 30 = .ok (.sipush 255, 3) := by decide +kernel
theorem d1_33 : decode method_5_code 33 = .ok (.iand, 1) := by decide +kernel
theorem d1_34 : decode method_5_code 34 = .ok (.i2c, 1) := by decide +kernel
theorem d1_35 : decode method_5_code 35 = .ok (.ireturn, 1) := by decide +kernel
theorem ef_1 (m : MethodId) (p1_0 : Int32) : entryFrame m #[(.int p1_0)] 3 = mkF m 0 #[.val (.int p1_0), .unset, .unset] [] := by first | (simp [entryFrame, mkF, argsToLocals, Value.category]; done) | rfl
def own_chr (p1_0 : Int32) : Int32 := (if (p1_0 &&& (3 : Int32)) = (0 : Int32) then ((48 : Int32) + (((p1_0.toUInt32 >>> ((2 : Int32) &&& 31).toUInt32).toInt32) % (10 : Int32))).toUInt32.toUInt16.toUInt32.toInt32 else (if (p1_0 &&& (3 : Int32)) = (1 : Int32) then (46 : Int32) else (((p1_0.toUInt32 >>> ((2 : Int32) &&& 31).toUInt32).toInt32) &&& (255 : Int32)).toUInt32.toUInt16.toUInt32.toInt32))
def Q1 (Z : State) (p1_0 : Int32) (h0 : Heap) (n0 : Nat) (v : Option Value) (h : Heap) (L : List Loc) : Prop := v = some (.int (own_chr p1_0)) ∧ Fr n0 L ∧ h = h0
set_option maxRecDepth 65536 in
set_option maxHeartbeats 40000000 in
theorem rm1 (l : Launch) (Z : State) (a0 : Array Value) (hw : ∀ d ∈ tables_1, d.before a0 Z = true) (ws : List Jvm.Cond) (p1_0 : Int32) (h0 : Heap) (n0 : Nat) (Z0 : n0 ≤ h0.size) :
    MetFree l (⟨"com/example/oyster/oyster/engine/LiteralsNumberEndPinLaw", "charOf", "(I)C"⟩ : MethodName) (head1 (Jvm.Cond.code (⟨"com/example/oyster/oyster/engine/LiteralsNumberEndPinLaw", "charOf", "(I)C"⟩ : MethodName) method_5_code 3 (some .char) :: ws) ({ frames := 0, cells := 0, slots := 0, locals := 0 } : Room)) (fun a U => a = #[(.int p1_0)] ∧ Z.Warmed39 U.vm ∧ U.heap = h0) (fun _ _ _ _ _ => True) (fun _ U o U' => ∃ v L, o = .returned v ∧ Q1 Z p1_0 h0 n0 v U'.heap L ∧ FrameEnd U o U' L ({ frames := 0, cells := 0, slots := 0, locals := 0 } : Room).cells ({ frames := 0, cells := 0, slots := 0, locals := 0 } : Room).slots) := by
  refine MetFree.of_bodySF (plainFor_of_name pn_0) hisR ?_
  intro p e s m args below meth c s₁ Bd hml0 hP hK
  obtain ⟨rfl, hZ, hh⟩ := hP
  have hx := Bd.exec
  have hby := Bd.bytes
  have hml : c.maxLocals = 3 := hml0
  have hown : s.vm.findClass "com/example/oyster/oyster/engine/LiteralsNumberEndPinLaw" = some m.cls := findClass_of_methodNamed Bd.named
  have hnm := (name_of_methodNamed Bd.named Bd.method).1
  have X0 : Stand p l e ({ frames := 0, cells := 0, slots := 0, locals := 0 } : Room) s m #[(.int p1_0)] below meth c s₁ [] 0 0 := Stand.of_body Bd
  have e0 : s₁.heap = h0 := by rw [← hh, Bd.state]; rfl
  have N0 := Fr.nil n0
  have pre0 : ∀ t, Steps p.tables e below (s₁.setTop (mkF m 0 #[.val (.int p1_0), .unset, .unset] [])) t → Steps p.tables e below (s₁.setTop (entryFrame m #[(.int p1_0)] 3)) t := fun t k => castTop (ef_1 m p1_0) k
  have k1 : ∀ t, Steps p.tables e below (s₁.setTop (mkF m 9 #[.val (.int p1_0), .val (.int (p1_0 &&& (3 : Int32))), .val (.int ((p1_0.toUInt32 >>> ((2 : Int32) &&& 31).toUInt32).toInt32))] [(.int (p1_0 &&& (3 : Int32)))])) t → Steps p.tables e below (s₁.setTop (entryFrame m #[(.int p1_0)] 3)) t := by
    intro t k
    refine pre0 t ?_
    show Steps p.tables e below (s₁.setTop (mkF m 0 #[.val (.int p1_0), .unset, .unset] [])) _
    refine XS.iloadN X0.here hx rfl (hb hby d1_0) rfl ?_
    show Steps p.tables e below (s₁.setTop (mkF m 1 #[.val (.int p1_0), .unset, .unset] [(.int p1_0)])) _
    refine XS.iconst X0.here hx rfl (hb hby d1_1) ?_
    show Steps p.tables e below (s₁.setTop (mkF m 2 #[.val (.int p1_0), .unset, .unset] [(.int (3 : Int32)), (.int p1_0)])) _
    refine XS.iand X0.here hx rfl (hb hby d1_2) rfl ?_
    show Steps p.tables e below (s₁.setTop (mkF m 3 #[.val (.int p1_0), .unset, .unset] [(.int (p1_0 &&& (3 : Int32)))])) _
    refine XS.istoreN X0.here hx rfl (hb hby d1_3) rfl (l' := #[.val (.int p1_0), .val (.int (p1_0 &&& (3 : Int32))), .unset]) rfl ?_
    show Steps p.tables e below (s₁.setTop (mkF m 4 #[.val (.int p1_0), .val (.int (p1_0 &&& (3 : Int32))), .unset] [])) _
    refine XS.iloadN X0.here hx rfl (hb hby d1_4) rfl ?_
    show Steps p.tables e below (s₁.setTop (mkF m 5 #[.val (.int p1_0), .val (.int (p1_0 &&& (3 : Int32))), .unset] [(.int p1_0)])) _
    refine XS.iconst X0.here hx rfl (hb hby d1_5) ?_
    show Steps p.tables e below (s₁.setTop (mkF m 6 #[.val (.int p1_0), .val (.int (p1_0 &&& (3 : Int32))), .unset] [(.int (2 : Int32)), (.int p1_0)])) _
    refine XS.iushr X0.here hx rfl (hb hby d1_6) rfl ?_
    show Steps p.tables e below (s₁.setTop (mkF m 7 #[.val (.int p1_0), .val (.int (p1_0 &&& (3 : Int32))), .unset] [(.int ((p1_0.toUInt32 >>> ((2 : Int32) &&& 31).toUInt32).toInt32))])) _
    refine XS.istoreN X0.here hx rfl (hb hby d1_7) rfl (l' := #[.val (.int p1_0), .val (.int (p1_0 &&& (3 : Int32))), .val (.int ((p1_0.toUInt32 >>> ((2 : Int32) &&& 31).toUInt32).toInt32))]) rfl ?_
    show Steps p.tables e below (s₁.setTop (mkF m 8 #[.val (.int p1_0), .val (.int (p1_0 &&& (3 : Int32))), .val (.int ((p1_0.toUInt32 >>> ((2 : Int32) &&& 31).toUInt32).toInt32))] [])) _
    refine XS.iloadN X0.here hx rfl (hb hby d1_8) rfl ?_
    exact k
  by_cases hc9_2 : (p1_0 &&& (3 : Int32)) = (0 : Int32)
  · skip
    have k3 : ∀ t, Steps p.tables e below (s₁.setTop (mkF m 20 #[.val (.int p1_0), .val (.int (p1_0 &&& (3 : Int32))), .val (.int ((p1_0.toUInt32 >>> ((2 : Int32) &&& 31).toUInt32).toInt32))] [(.int ((48 : Int32) + (((p1_0.toUInt32 >>> ((2 : Int32) &&& 31).toUInt32).toInt32) % (10 : Int32))).toUInt32.toUInt16.toUInt32.toInt32)])) t → Steps p.tables e below (s₁.setTop (entryFrame m #[(.int p1_0)] 3)) t := by
      intro t k
      refine k1 t ?_
      show Steps p.tables e below (s₁.setTop (mkF m 9 #[.val (.int p1_0), .val (.int (p1_0 &&& (3 : Int32))), .val (.int ((p1_0.toUInt32 >>> ((2 : Int32) &&& 31).toUInt32).toInt32))] [(.int (p1_0 &&& (3 : Int32)))])) _
      refine XS.ifNo X0.here hx rfl (hb hby d1_9) rfl ((if0 _ _).trans (teq hc9_2).2) ?_
      show Steps p.tables e below (s₁.setTop (mkF m 12 #[.val (.int p1_0), .val (.int (p1_0 &&& (3 : Int32))), .val (.int ((p1_0.toUInt32 >>> ((2 : Int32) &&& 31).toUInt32).toInt32))] [])) _
      refine XS.bipush X0.here hx rfl (hb hby d1_12) ?_
      show Steps p.tables e below (s₁.setTop (mkF m 14 #[.val (.int p1_0), .val (.int (p1_0 &&& (3 : Int32))), .val (.int ((p1_0.toUInt32 >>> ((2 : Int32) &&& 31).toUInt32).toInt32))] [(.int (48 : Int32))])) _
      refine XS.iloadN X0.here hx rfl (hb hby d1_14) rfl ?_
      show Steps p.tables e below (s₁.setTop (mkF m 15 #[.val (.int p1_0), .val (.int (p1_0 &&& (3 : Int32))), .val (.int ((p1_0.toUInt32 >>> ((2 : Int32) &&& 31).toUInt32).toInt32))] [(.int ((p1_0.toUInt32 >>> ((2 : Int32) &&& 31).toUInt32).toInt32)), (.int (48 : Int32))])) _
      refine XS.bipush X0.here hx rfl (hb hby d1_15) ?_
      show Steps p.tables e below (s₁.setTop (mkF m 17 #[.val (.int p1_0), .val (.int (p1_0 &&& (3 : Int32))), .val (.int ((p1_0.toUInt32 >>> ((2 : Int32) &&& 31).toUInt32).toInt32))] [(.int (10 : Int32)), (.int ((p1_0.toUInt32 >>> ((2 : Int32) &&& 31).toUInt32).toInt32)), (.int (48 : Int32))])) _
      refine iremM X0 hx rfl (hb hby d1_17) rfl (by decide) ?_
      show Steps p.tables e below (s₁.setTop (mkF m 18 #[.val (.int p1_0), .val (.int (p1_0 &&& (3 : Int32))), .val (.int ((p1_0.toUInt32 >>> ((2 : Int32) &&& 31).toUInt32).toInt32))] [(.int (((p1_0.toUInt32 >>> ((2 : Int32) &&& 31).toUInt32).toInt32) % (10 : Int32))), (.int (48 : Int32))])) _
      refine XS.iadd X0.here hx rfl (hb hby d1_18) rfl ?_
      show Steps p.tables e below (s₁.setTop (mkF m 19 #[.val (.int p1_0), .val (.int (p1_0 &&& (3 : Int32))), .val (.int ((p1_0.toUInt32 >>> ((2 : Int32) &&& 31).toUInt32).toInt32))] [(.int ((48 : Int32) + (((p1_0.toUInt32 >>> ((2 : Int32) &&& 31).toUInt32).toInt32) % (10 : Int32))))])) _
      refine XS.i2c X0.here hx rfl (hb hby d1_19) rfl ?_
      exact k
    obtain ⟨fs, hr, hrun, hended, hW, hsame⟩ := X0.leave (v := some (.int ((48 : Int32) + (((p1_0.toUInt32 >>> ((2 : Int32) &&& 31).toUInt32).toInt32) % (10 : Int32))).toUInt32.toUInt16.toUInt32.toInt32)) (fun h => by rw [Bd.returns] at h; cases h)
    refine ⟨_, _, k3 _ ?_, hrun, hended, _, _, rfl, ?_, ⟨_, rfl⟩, hW, hsame.mono (by decide) (by decide)⟩
    · rw [← (own_nar2 ((48 : Int32) + (((p1_0.toUInt32 >>> ((2 : Int32) &&& 31).toUInt32).toInt32) % (10 : Int32))))] at hr
      exact retN X0 hx (t := .char) Bd.returns (by simp) (hb hby d1_20) hr
    · show Q1 Z p1_0 h0 n0 _ s₁.heap _
      rw [e0]
      exact ⟨congrArg (fun z => some (Value.int z)) (show (((48 : Int32) + (((p1_0.toUInt32 >>> ((2 : Int32) &&& 31).toUInt32).toInt32) % (10 : Int32))).toUInt32.toUInt16.toUInt32.toInt32 : Int32) = own_chr p1_0 from by unfold own_chr; rw [if_pos hc9_2]), N0, rfl⟩
  · skip
    have k4 : ∀ t, Steps p.tables e below (s₁.setTop (mkF m 23 #[.val (.int p1_0), .val (.int (p1_0 &&& (3 : Int32))), .val (.int ((p1_0.toUInt32 >>> ((2 : Int32) &&& 31).toUInt32).toInt32))] [(.int (1 : Int32)), (.int (p1_0 &&& (3 : Int32)))])) t → Steps p.tables e below (s₁.setTop (entryFrame m #[(.int p1_0)] 3)) t := by
      intro t k
      refine k1 t ?_
      show Steps p.tables e below (s₁.setTop (mkF m 9 #[.val (.int p1_0), .val (.int (p1_0 &&& (3 : Int32))), .val (.int ((p1_0.toUInt32 >>> ((2 : Int32) &&& 31).toUInt32).toInt32))] [(.int (p1_0 &&& (3 : Int32)))])) _
      refine XS.ifYes X0.here hx rfl (pc0 := 9) (pc' := 21) rfl (hb hby d1_9) rfl ((if0 _ _).trans (feq hc9_2).2) (by decide) (by decide) ?_
      show Steps p.tables e below (s₁.setTop (mkF m 21 #[.val (.int p1_0), .val (.int (p1_0 &&& (3 : Int32))), .val (.int ((p1_0.toUInt32 >>> ((2 : Int32) &&& 31).toUInt32).toInt32))] [])) _
      refine XS.iloadN X0.here hx rfl (hb hby d1_21) rfl ?_
      show Steps p.tables e below (s₁.setTop (mkF m 22 #[.val (.int p1_0), .val (.int (p1_0 &&& (3 : Int32))), .val (.int ((p1_0.toUInt32 >>> ((2 : Int32) &&& 31).toUInt32).toInt32))] [(.int (p1_0 &&& (3 : Int32)))])) _
      refine XS.iconst X0.here hx rfl (hb hby d1_22) ?_
      exact k
    by_cases hc23_5 : (p1_0 &&& (3 : Int32)) = (1 : Int32)
    · skip
      have k6 : ∀ t, Steps p.tables e below (s₁.setTop (mkF m 28 #[.val (.int p1_0), .val (.int (p1_0 &&& (3 : Int32))), .val (.int ((p1_0.toUInt32 >>> ((2 : Int32) &&& 31).toUInt32).toInt32))] [(.int (46 : Int32))])) t → Steps p.tables e below (s₁.setTop (entryFrame m #[(.int p1_0)] 3)) t := by
        intro t k
        refine k4 t ?_
        show Steps p.tables e below (s₁.setTop (mkF m 23 #[.val (.int p1_0), .val (.int (p1_0 &&& (3 : Int32))), .val (.int ((p1_0.toUInt32 >>> ((2 : Int32) &&& 31).toUInt32).toInt32))] [(.int (1 : Int32)), (.int (p1_0 &&& (3 : Int32)))])) _
        refine XS.icmpNo X0.here hx rfl (hb hby d1_23) rfl (teq hc23_5).2 ?_
        show Steps p.tables e below (s₁.setTop (mkF m 26 #[.val (.int p1_0), .val (.int (p1_0 &&& (3 : Int32))), .val (.int ((p1_0.toUInt32 >>> ((2 : Int32) &&& 31).toUInt32).toInt32))] [])) _
        refine XS.bipush X0.here hx rfl (hb hby d1_26) ?_
        exact k
      obtain ⟨fs, hr, hrun, hended, hW, hsame⟩ := X0.leave (v := some (.int (46 : Int32))) (fun h => by rw [Bd.returns] at h; cases h)
      refine ⟨_, _, k6 _ ?_, hrun, hended, _, _, rfl, ?_, ⟨_, rfl⟩, hW, hsame.mono (by decide) (by decide)⟩
      · exact retN X0 hx (t := .char) Bd.returns (by simp) (hb hby d1_28) hr
      · show Q1 Z p1_0 h0 n0 _ s₁.heap _
        rw [e0]
        exact ⟨congrArg (fun z => some (Value.int z)) (show ((46 : Int32) : Int32) = own_chr p1_0 from by unfold own_chr; rw [if_neg hc9_2, if_pos hc23_5]), N0, rfl⟩
    · skip
      have k7 : ∀ t, Steps p.tables e below (s₁.setTop (mkF m 35 #[.val (.int p1_0), .val (.int (p1_0 &&& (3 : Int32))), .val (.int ((p1_0.toUInt32 >>> ((2 : Int32) &&& 31).toUInt32).toInt32))] [(.int (((p1_0.toUInt32 >>> ((2 : Int32) &&& 31).toUInt32).toInt32) &&& (255 : Int32)).toUInt32.toUInt16.toUInt32.toInt32)])) t → Steps p.tables e below (s₁.setTop (entryFrame m #[(.int p1_0)] 3)) t := by
        intro t k
        refine k4 t ?_
        show Steps p.tables e below (s₁.setTop (mkF m 23 #[.val (.int p1_0), .val (.int (p1_0 &&& (3 : Int32))), .val (.int ((p1_0.toUInt32 >>> ((2 : Int32) &&& 31).toUInt32).toInt32))] [(.int (1 : Int32)), (.int (p1_0 &&& (3 : Int32)))])) _
        refine XS.icmpYes X0.here hx rfl (pc0 := 23) (pc' := 29) rfl (hb hby d1_23) rfl (feq hc23_5).2 (by decide) (by decide) ?_
        show Steps p.tables e below (s₁.setTop (mkF m 29 #[.val (.int p1_0), .val (.int (p1_0 &&& (3 : Int32))), .val (.int ((p1_0.toUInt32 >>> ((2 : Int32) &&& 31).toUInt32).toInt32))] [])) _
        refine XS.iloadN X0.here hx rfl (hb hby d1_29) rfl ?_
        show Steps p.tables e below (s₁.setTop (mkF m 30 #[.val (.int p1_0), .val (.int (p1_0 &&& (3 : Int32))), .val (.int ((p1_0.toUInt32 >>> ((2 : Int32) &&& 31).toUInt32).toInt32))] [(.int ((p1_0.toUInt32 >>> ((2 : Int32) &&& 31).toUInt32).toInt32))])) _
        refine XS.sipush X0.here hx rfl (hb hby d1_30) ?_
        show Steps p.tables e below (s₁.setTop (mkF m 33 #[.val (.int p1_0), .val (.int (p1_0 &&& (3 : Int32))), .val (.int ((p1_0.toUInt32 >>> ((2 : Int32) &&& 31).toUInt32).toInt32))] [(.int (255 : Int32)), (.int ((p1_0.toUInt32 >>> ((2 : Int32) &&& 31).toUInt32).toInt32))])) _
        refine XS.iand X0.here hx rfl (hb hby d1_33) rfl ?_
        show Steps p.tables e below (s₁.setTop (mkF m 34 #[.val (.int p1_0), .val (.int (p1_0 &&& (3 : Int32))), .val (.int ((p1_0.toUInt32 >>> ((2 : Int32) &&& 31).toUInt32).toInt32))] [(.int (((p1_0.toUInt32 >>> ((2 : Int32) &&& 31).toUInt32).toInt32) &&& (255 : Int32)))])) _
        refine XS.i2c X0.here hx rfl (hb hby d1_34) rfl ?_
        exact k
      obtain ⟨fs, hr, hrun, hended, hW, hsame⟩ := X0.leave (v := some (.int (((p1_0.toUInt32 >>> ((2 : Int32) &&& 31).toUInt32).toInt32) &&& (255 : Int32)).toUInt32.toUInt16.toUInt32.toInt32)) (fun h => by rw [Bd.returns] at h; cases h)
      refine ⟨_, _, k7 _ ?_, hrun, hended, _, _, rfl, ?_, ⟨_, rfl⟩, hW, hsame.mono (by decide) (by decide)⟩
      · rw [← (own_nar2 (((p1_0.toUInt32 >>> ((2 : Int32) &&& 31).toUInt32).toInt32) &&& (255 : Int32)))] at hr
        exact retN X0 hx (t := .char) Bd.returns (by simp) (hb hby d1_35) hr
      · show Q1 Z p1_0 h0 n0 _ s₁.heap _
        rw [e0]
        exact ⟨congrArg (fun z => some (Value.int z)) (show ((((p1_0.toUInt32 >>> ((2 : Int32) &&& 31).toUInt32).toInt32) &&& (255 : Int32)).toUInt32.toUInt16.toUInt32.toInt32 : Int32) = own_chr p1_0 from by unfold own_chr; rw [if_neg hc9_2, if_neg hc23_5]), N0, rfl⟩
theorem own_dig10 (p : Int32) : ¬ (((48 : Int32) + (((p.toUInt32 >>> ((2 : Int32) &&& 31).toUInt32).toInt32) % (10 : Int32))).toUInt32.toUInt16.toUInt32.toInt32 < (48 : Int32)) ∧ ¬ ((57 : Int32) < ((48 : Int32) + (((p.toUInt32 >>> ((2 : Int32) &&& 31).toUInt32).toInt32) % (10 : Int32))).toUInt32.toUInt16.toUInt32.toInt32) := by
  have u := c_iushr p 2 2 (by decide) (by decide)
  have r := rng32 p
  have q := (c_irem ((p.toUInt32 >>> ((2 : Int32) &&& 31).toUInt32).toInt32) (10 : Int32) 10 rfl).1 (by rw [u]; omega)
  have a := c_iadd (48 : Int32) (((p.toUInt32 >>> ((2 : Int32) &&& 31).toUInt32).toInt32) % (10 : Int32))
  have b := rng32 ((48 : Int32) + (((p.toUInt32 >>> ((2 : Int32) &&& 31).toUInt32).toInt32) % (10 : Int32)))
  have c := c_i2c ((48 : Int32) + (((p.toUInt32 >>> ((2 : Int32) &&& 31).toUInt32).toInt32) % (10 : Int32)))
  rw [u] at q
  rw [q, show (48 : Int32).toInt = 48 from rfl] at a
  simp only [own_lt, show (48 : Int32).toInt = 48 from rfl, show (57 : Int32).toInt = 57 from rfl]
  omega
theorem own_chr_rng (p : Int32) : ¬ (own_chr p < 0) ∧ ¬ ((255 : Int32) < own_chr p) := by
  have d := own_dig10 p
  have m := c_mask ((p.toUInt32 >>> ((2 : Int32) &&& 31).toUInt32).toInt32) 255 8 (by decide) (by decide)
  have c := c_i2c (((p.toUInt32 >>> ((2 : Int32) &&& 31).toUInt32).toInt32) &&& (255 : Int32))
  unfold own_chr
  split
  · simp only [own_lt, show (48 : Int32).toInt = 48 from rfl, show (57 : Int32).toInt = 57 from rfl, show (0 : Int32).toInt = 0 from rfl, show (255 : Int32).toInt = 255 from rfl] at *
    omega
  · split
    · decide
    · simp only [own_lt, show (0 : Int32).toInt = 0 from rfl, show (255 : Int32).toInt = 255 from rfl] at *
      omega
theorem d2_0 : decode method_3_code 0 = .ok (.iload_n 0, 1) := by decide +kernel
theorem d2_1 : decode method_3_code 1 = .ok (.bipush 48, 2) := by decide +kernel
theorem d2_3 : decode method_3_code 3 = .ok (.if_icmp .lt 13, 3) := by decide +kernel
theorem d2_6 : decode method_3_code 6 = .ok (.iload_n 0, 1) := by decide +kernel
theorem d2_7 : decode method_3_code 7 = .ok (.bipush 57, 2) := by decide +kernel
theorem d2_9 : decode method_3_code 9 = .ok (.if_icmp .gt 7, 3) := by decide +kernel
theorem d2_12 : decode method_3_code 12 = .ok (.iconst 1, 1) := by decide +kernel
theorem d2_13 : decode method_3_code 13 = .ok (.goto 4, 3) := by decide +kernel
theorem d2_16 : decode method_3_code 16 = .ok (.iconst 0, 1) := by decide +kernel
theorem d2_17 : decode method_3_code 17 = .ok (.ireturn, 1) := by decide +kernel
theorem ef_2 (m : MethodId) (p2_0 : Int32) : entryFrame m #[(.int p2_0)] 1 = mkF m 0 #[.val (.int p2_0)] [] := by first | (simp [entryFrame, mkF, argsToLocals, Value.category]; done) | rfl
def own_dg (p2_0 : Int32) : Int32 := (if p2_0 < (48 : Int32) then (0 : Int32) else (if (57 : Int32) < p2_0 then (0 : Int32) else (1 : Int32)))
def Q2 (Z : State) (p2_0 : Int32) (h0 : Heap) (n0 : Nat) (v : Option Value) (h : Heap) (L : List Loc) : Prop := v = some (.int (own_dg p2_0)) ∧ Fr n0 L ∧ h = h0
set_option maxRecDepth 65536 in
set_option maxHeartbeats 40000000 in
theorem rm2 (l : Launch) (Z : State) (a0 : Array Value) (hw : ∀ d ∈ tables_1, d.before a0 Z = true) (ws : List Jvm.Cond) (p2_0 : Int32) (h0 : Heap) (n0 : Nat) (Z0 : n0 ≤ h0.size) :
    MetFree l (⟨"com/example/oyster/oyster/engine/LiteralsNumberEndPinLaw", "dig", "(C)Z"⟩ : MethodName) (head1 (Jvm.Cond.code (⟨"com/example/oyster/oyster/engine/LiteralsNumberEndPinLaw", "dig", "(C)Z"⟩ : MethodName) method_3_code 1 (some .boolean) :: ws) ({ frames := 0, cells := 0, slots := 0, locals := 0 } : Room)) (fun a U => a = #[(.int p2_0)] ∧ Z.Warmed39 U.vm ∧ U.heap = h0) (fun _ _ _ _ _ => True) (fun _ U o U' => ∃ v L, o = .returned v ∧ Q2 Z p2_0 h0 n0 v U'.heap L ∧ FrameEnd U o U' L ({ frames := 0, cells := 0, slots := 0, locals := 0 } : Room).cells ({ frames := 0, cells := 0, slots := 0, locals := 0 } : Room).slots) := by
  refine MetFree.of_bodySF (plainFor_of_name pn_0) hisR ?_
  intro p e s m args below meth c s₁ Bd hml0 hP hK
  obtain ⟨rfl, hZ, hh⟩ := hP
  have hx := Bd.exec
  have hby := Bd.bytes
  have hml : c.maxLocals = 1 := hml0
  have hown : s.vm.findClass "com/example/oyster/oyster/engine/LiteralsNumberEndPinLaw" = some m.cls := findClass_of_methodNamed Bd.named
  have hnm := (name_of_methodNamed Bd.named Bd.method).1
  have X0 : Stand p l e ({ frames := 0, cells := 0, slots := 0, locals := 0 } : Room) s m #[(.int p2_0)] below meth c s₁ [] 0 0 := Stand.of_body Bd
  have e0 : s₁.heap = h0 := by rw [← hh, Bd.state]; rfl
  have N0 := Fr.nil n0
  have pre0 : ∀ t, Steps p.tables e below (s₁.setTop (mkF m 0 #[.val (.int p2_0)] [])) t → Steps p.tables e below (s₁.setTop (entryFrame m #[(.int p2_0)] 1)) t := fun t k => castTop (ef_2 m p2_0) k
  have k1 : ∀ t, Steps p.tables e below (s₁.setTop (mkF m 3 #[.val (.int p2_0)] [(.int (48 : Int32)), (.int p2_0)])) t → Steps p.tables e below (s₁.setTop (entryFrame m #[(.int p2_0)] 1)) t := by
    intro t k
    refine pre0 t ?_
    show Steps p.tables e below (s₁.setTop (mkF m 0 #[.val (.int p2_0)] [])) _
    refine XS.iloadN X0.here hx rfl (hb hby d2_0) rfl ?_
    show Steps p.tables e below (s₁.setTop (mkF m 1 #[.val (.int p2_0)] [(.int p2_0)])) _
    refine XS.bipush X0.here hx rfl (hb hby d2_1) ?_
    exact k
  by_cases hc3_2 : p2_0 < (48 : Int32)
  · skip
    have k3 : ∀ t, Steps p.tables e below (s₁.setTop (mkF m 17 #[.val (.int p2_0)] [(.int (0 : Int32))])) t → Steps p.tables e below (s₁.setTop (entryFrame m #[(.int p2_0)] 1)) t := by
      intro t k
      refine k1 t ?_
      show Steps p.tables e below (s₁.setTop (mkF m 3 #[.val (.int p2_0)] [(.int (48 : Int32)), (.int p2_0)])) _
      refine XS.icmpYes X0.here hx rfl (pc0 := 3) (pc' := 16) rfl (hb hby d2_3) rfl (tlt hc3_2).1 (by decide) (by decide) ?_
      show Steps p.tables e below (s₁.setTop (mkF m 16 #[.val (.int p2_0)] [])) _
      refine XS.iconst X0.here hx rfl (hb hby d2_16) ?_
      exact k
    obtain ⟨fs, hr, hrun, hended, hW, hsame⟩ := X0.leave (v := some (.int (0 : Int32))) (fun h => by rw [Bd.returns] at h; cases h)
    refine ⟨_, _, k3 _ ?_, hrun, hended, _, _, rfl, ?_, ⟨_, rfl⟩, hW, hsame.mono (by decide) (by decide)⟩
    · exact retN X0 hx (t := .boolean) Bd.returns (by simp) (hb hby d2_17) hr
    · show Q2 Z p2_0 h0 n0 _ s₁.heap _
      rw [e0]
      exact ⟨congrArg (fun z => some (Value.int z)) (show ((0 : Int32) : Int32) = own_dg p2_0 from by unfold own_dg; rw [if_pos hc3_2]), N0, rfl⟩
  · skip
    have k4 : ∀ t, Steps p.tables e below (s₁.setTop (mkF m 9 #[.val (.int p2_0)] [(.int (57 : Int32)), (.int p2_0)])) t → Steps p.tables e below (s₁.setTop (entryFrame m #[(.int p2_0)] 1)) t := by
      intro t k
      refine k1 t ?_
      show Steps p.tables e below (s₁.setTop (mkF m 3 #[.val (.int p2_0)] [(.int (48 : Int32)), (.int p2_0)])) _
      refine XS.icmpNo X0.here hx rfl (hb hby d2_3) rfl (flt hc3_2).1 ?_
      show Steps p.tables e below (s₁.setTop (mkF m 6 #[.val (.int p2_0)] [])) _
      refine XS.iloadN X0.here hx rfl (hb hby d2_6) rfl ?_
      show Steps p.tables e below (s₁.setTop (mkF m 7 #[.val (.int p2_0)] [(.int p2_0)])) _
      refine XS.bipush X0.here hx rfl (hb hby d2_7) ?_
      exact k
    by_cases hc9_5 : (57 : Int32) < p2_0
    · skip
      have k6 : ∀ t, Steps p.tables e below (s₁.setTop (mkF m 17 #[.val (.int p2_0)] [(.int (0 : Int32))])) t → Steps p.tables e below (s₁.setTop (entryFrame m #[(.int p2_0)] 1)) t := by
        intro t k
        refine k4 t ?_
        show Steps p.tables e below (s₁.setTop (mkF m 9 #[.val (.int p2_0)] [(.int (57 : Int32)), (.int p2_0)])) _
        refine XS.icmpYes X0.here hx rfl (pc0 := 9) (pc' := 16) rfl (hb hby d2_9) rfl (tlt hc9_5).2.2.1 (by decide) (by decide) ?_
        show Steps p.tables e below (s₁.setTop (mkF m 16 #[.val (.int p2_0)] [])) _
        refine XS.iconst X0.here hx rfl (hb hby d2_16) ?_
        exact k
      obtain ⟨fs, hr, hrun, hended, hW, hsame⟩ := X0.leave (v := some (.int (0 : Int32))) (fun h => by rw [Bd.returns] at h; cases h)
      refine ⟨_, _, k6 _ ?_, hrun, hended, _, _, rfl, ?_, ⟨_, rfl⟩, hW, hsame.mono (by decide) (by decide)⟩
      · exact retN X0 hx (t := .boolean) Bd.returns (by simp) (hb hby d2_17) hr
      · show Q2 Z p2_0 h0 n0 _ s₁.heap _
        rw [e0]
        exact ⟨congrArg (fun z => some (Value.int z)) (show ((0 : Int32) : Int32) = own_dg p2_0 from by unfold own_dg; rw [if_neg hc3_2, if_pos hc9_5]), N0, rfl⟩
    · skip
      have k7 : ∀ t, Steps p.tables e below (s₁.setTop (mkF m 17 #[.val (.int p2_0)] [(.int (1 : Int32))])) t → Steps p.tables e below (s₁.setTop (entryFrame m #[(.int p2_0)] 1)) t := by
        intro t k
        refine k4 t ?_
        show Steps p.tables e below (s₁.setTop (mkF m 9 #[.val (.int p2_0)] [(.int (57 : Int32)), (.int p2_0)])) _
        refine XS.icmpNo X0.here hx rfl (hb hby d2_9) rfl (flt hc9_5).2.2.1 ?_
        show Steps p.tables e below (s₁.setTop (mkF m 12 #[.val (.int p2_0)] [])) _
        refine XS.iconst X0.here hx rfl (hb hby d2_12) ?_
        show Steps p.tables e below (s₁.setTop (mkF m 13 #[.val (.int p2_0)] [(.int (1 : Int32))])) _
        refine XS.goto X0.here hx rfl (pc0 := 13) (pc' := 17) rfl (hb hby d2_13) (by decide) (by decide) ?_
        exact k
      obtain ⟨fs, hr, hrun, hended, hW, hsame⟩ := X0.leave (v := some (.int (1 : Int32))) (fun h => by rw [Bd.returns] at h; cases h)
      refine ⟨_, _, k7 _ ?_, hrun, hended, _, _, rfl, ?_, ⟨_, rfl⟩, hW, hsame.mono (by decide) (by decide)⟩
      · exact retN X0 hx (t := .boolean) Bd.returns (by simp) (hb hby d2_17) hr
      · show Q2 Z p2_0 h0 n0 _ s₁.heap _
        rw [e0]
        exact ⟨congrArg (fun z => some (Value.int z)) (show ((1 : Int32) : Int32) = own_dg p2_0 from by unfold own_dg; rw [if_neg hc3_2, if_neg hc9_5]), N0, rfl⟩
theorem pn_1 : plainName "com/example/oyster/oyster/engine/Literals" = true := by first | (simp [plainName, overriddenIn]; done) | decide +kernel
theorem d3_0 : decode prog_13_method_4_code 0 = .ok (.iload_n 0, 1) := by decide +kernel
theorem d3_1 : decode prog_13_method_4_code 1 = .ok (.bipush 48, 2) := by decide +kernel
theorem d3_3 : decode prog_13_method_4_code 3 = .ok (.if_icmp .lt 13, 3) := by decide +kernel
theorem d3_6 : decode prog_13_method_4_code 6 = .ok (.iload_n 0, 1) := by decide +kernel
theorem d3_7 : decode prog_13_method_4_code 7 = .ok (.bipush 57, 2) := by decide +kernel
theorem d3_9 : decode prog_13_method_4_code 9 = .ok (.if_icmp .gt 7, 3) := by decide +kernel
theorem d3_12 : decode prog_13_method_4_code 12 = .ok (.iconst 1, 1) := by decide +kernel
theorem d3_13 : decode prog_13_method_4_code 13 = .ok (.goto 4, 3) := by decide +kernel
theorem d3_16 : decode prog_13_method_4_code 16 = .ok (.iconst 0, 1) := by decide +kernel
theorem d3_17 : decode prog_13_method_4_code 17 = .ok (.ireturn, 1) := by decide +kernel
theorem ef_3 (m : MethodId) (p3_0 : Int32) : entryFrame m #[(.int p3_0)] 1 = mkF m 0 #[.val (.int p3_0)] [] := by first | (simp [entryFrame, mkF, argsToLocals, Value.category]; done) | rfl
def own_dg2 (p3_0 : Int32) : Int32 := (if p3_0 < (48 : Int32) then (0 : Int32) else (if (57 : Int32) < p3_0 then (0 : Int32) else (1 : Int32)))
def Q3 (Z : State) (p3_0 : Int32) (h0 : Heap) (n0 : Nat) (v : Option Value) (h : Heap) (L : List Loc) : Prop := v = some (.int (own_dg2 p3_0)) ∧ Fr n0 L ∧ h = h0
set_option maxRecDepth 65536 in
set_option maxHeartbeats 40000000 in
theorem rm3 (l : Launch) (Z : State) (a0 : Array Value) (hw : ∀ d ∈ tables_1, d.before a0 Z = true) (ws : List Jvm.Cond) (p3_0 : Int32) (h0 : Heap) (n0 : Nat) (Z0 : n0 ≤ h0.size) :
    MetFree l (⟨"com/example/oyster/oyster/engine/Literals", "isDigit", "(C)Z"⟩ : MethodName) (head1 (Jvm.Cond.code (⟨"com/example/oyster/oyster/engine/Literals", "isDigit", "(C)Z"⟩ : MethodName) prog_13_method_4_code 1 (some .boolean) :: ws) ({ frames := 0, cells := 0, slots := 0, locals := 0 } : Room)) (fun a U => a = #[(.int p3_0)] ∧ Z.Warmed39 U.vm ∧ U.heap = h0) (fun _ _ _ _ _ => True) (fun _ U o U' => ∃ v L, o = .returned v ∧ Q3 Z p3_0 h0 n0 v U'.heap L ∧ FrameEnd U o U' L ({ frames := 0, cells := 0, slots := 0, locals := 0 } : Room).cells ({ frames := 0, cells := 0, slots := 0, locals := 0 } : Room).slots) := by
  refine MetFree.of_bodySF (plainFor_of_name pn_1) hisR ?_
  intro p e s m args below meth c s₁ Bd hml0 hP hK
  obtain ⟨rfl, hZ, hh⟩ := hP
  have hx := Bd.exec
  have hby := Bd.bytes
  have hml : c.maxLocals = 1 := hml0
  have hown : s.vm.findClass "com/example/oyster/oyster/engine/Literals" = some m.cls := findClass_of_methodNamed Bd.named
  have hnm := (name_of_methodNamed Bd.named Bd.method).1
  have X0 : Stand p l e ({ frames := 0, cells := 0, slots := 0, locals := 0 } : Room) s m #[(.int p3_0)] below meth c s₁ [] 0 0 := Stand.of_body Bd
  have e0 : s₁.heap = h0 := by rw [← hh, Bd.state]; rfl
  have N0 := Fr.nil n0
  have pre0 : ∀ t, Steps p.tables e below (s₁.setTop (mkF m 0 #[.val (.int p3_0)] [])) t → Steps p.tables e below (s₁.setTop (entryFrame m #[(.int p3_0)] 1)) t := fun t k => castTop (ef_3 m p3_0) k
  have k1 : ∀ t, Steps p.tables e below (s₁.setTop (mkF m 3 #[.val (.int p3_0)] [(.int (48 : Int32)), (.int p3_0)])) t → Steps p.tables e below (s₁.setTop (entryFrame m #[(.int p3_0)] 1)) t := by
    intro t k
    refine pre0 t ?_
    show Steps p.tables e below (s₁.setTop (mkF m 0 #[.val (.int p3_0)] [])) _
    refine XS.iloadN X0.here hx rfl (hb hby d3_0) rfl ?_
    show Steps p.tables e below (s₁.setTop (mkF m 1 #[.val (.int p3_0)] [(.int p3_0)])) _
    refine XS.bipush X0.here hx rfl (hb hby d3_1) ?_
    exact k
  by_cases hc3_2 : p3_0 < (48 : Int32)
  · skip
    have k3 : ∀ t, Steps p.tables e below (s₁.setTop (mkF m 17 #[.val (.int p3_0)] [(.int (0 : Int32))])) t → Steps p.tables e below (s₁.setTop (entryFrame m #[(.int p3_0)] 1)) t := by
      intro t k
      refine k1 t ?_
      show Steps p.tables e below (s₁.setTop (mkF m 3 #[.val (.int p3_0)] [(.int (48 : Int32)), (.int p3_0)])) _
      refine XS.icmpYes X0.here hx rfl (pc0 := 3) (pc' := 16) rfl (hb hby d3_3) rfl (tlt hc3_2).1 (by decide) (by decide) ?_
      show Steps p.tables e below (s₁.setTop (mkF m 16 #[.val (.int p3_0)] [])) _
      refine XS.iconst X0.here hx rfl (hb hby d3_16) ?_
      exact k
    obtain ⟨fs, hr, hrun, hended, hW, hsame⟩ := X0.leave (v := some (.int (0 : Int32))) (fun h => by rw [Bd.returns] at h; cases h)
    refine ⟨_, _, k3 _ ?_, hrun, hended, _, _, rfl, ?_, ⟨_, rfl⟩, hW, hsame.mono (by decide) (by decide)⟩
    · exact retN X0 hx (t := .boolean) Bd.returns (by simp) (hb hby d3_17) hr
    · show Q3 Z p3_0 h0 n0 _ s₁.heap _
      rw [e0]
      exact ⟨congrArg (fun z => some (Value.int z)) (show ((0 : Int32) : Int32) = own_dg2 p3_0 from by unfold own_dg2; rw [if_pos hc3_2]), N0, rfl⟩
  · skip
    have k4 : ∀ t, Steps p.tables e below (s₁.setTop (mkF m 9 #[.val (.int p3_0)] [(.int (57 : Int32)), (.int p3_0)])) t → Steps p.tables e below (s₁.setTop (entryFrame m #[(.int p3_0)] 1)) t := by
      intro t k
      refine k1 t ?_
      show Steps p.tables e below (s₁.setTop (mkF m 3 #[.val (.int p3_0)] [(.int (48 : Int32)), (.int p3_0)])) _
      refine XS.icmpNo X0.here hx rfl (hb hby d3_3) rfl (flt hc3_2).1 ?_
      show Steps p.tables e below (s₁.setTop (mkF m 6 #[.val (.int p3_0)] [])) _
      refine XS.iloadN X0.here hx rfl (hb hby d3_6) rfl ?_
      show Steps p.tables e below (s₁.setTop (mkF m 7 #[.val (.int p3_0)] [(.int p3_0)])) _
      refine XS.bipush X0.here hx rfl (hb hby d3_7) ?_
      exact k
    by_cases hc9_5 : (57 : Int32) < p3_0
    · skip
      have k6 : ∀ t, Steps p.tables e below (s₁.setTop (mkF m 17 #[.val (.int p3_0)] [(.int (0 : Int32))])) t → Steps p.tables e below (s₁.setTop (entryFrame m #[(.int p3_0)] 1)) t := by
        intro t k
        refine k4 t ?_
        show Steps p.tables e below (s₁.setTop (mkF m 9 #[.val (.int p3_0)] [(.int (57 : Int32)), (.int p3_0)])) _
        refine XS.icmpYes X0.here hx rfl (pc0 := 9) (pc' := 16) rfl (hb hby d3_9) rfl (tlt hc9_5).2.2.1 (by decide) (by decide) ?_
        show Steps p.tables e below (s₁.setTop (mkF m 16 #[.val (.int p3_0)] [])) _
        refine XS.iconst X0.here hx rfl (hb hby d3_16) ?_
        exact k
      obtain ⟨fs, hr, hrun, hended, hW, hsame⟩ := X0.leave (v := some (.int (0 : Int32))) (fun h => by rw [Bd.returns] at h; cases h)
      refine ⟨_, _, k6 _ ?_, hrun, hended, _, _, rfl, ?_, ⟨_, rfl⟩, hW, hsame.mono (by decide) (by decide)⟩
      · exact retN X0 hx (t := .boolean) Bd.returns (by simp) (hb hby d3_17) hr
      · show Q3 Z p3_0 h0 n0 _ s₁.heap _
        rw [e0]
        exact ⟨congrArg (fun z => some (Value.int z)) (show ((0 : Int32) : Int32) = own_dg2 p3_0 from by unfold own_dg2; rw [if_neg hc3_2, if_pos hc9_5]), N0, rfl⟩
    · skip
      have k7 : ∀ t, Steps p.tables e below (s₁.setTop (mkF m 17 #[.val (.int p3_0)] [(.int (1 : Int32))])) t → Steps p.tables e below (s₁.setTop (entryFrame m #[(.int p3_0)] 1)) t := by
        intro t k
        refine k4 t ?_
        show Steps p.tables e below (s₁.setTop (mkF m 9 #[.val (.int p3_0)] [(.int (57 : Int32)), (.int p3_0)])) _
        refine XS.icmpNo X0.here hx rfl (hb hby d3_9) rfl (flt hc9_5).2.2.1 ?_
        show Steps p.tables e below (s₁.setTop (mkF m 12 #[.val (.int p3_0)] [])) _
        refine XS.iconst X0.here hx rfl (hb hby d3_12) ?_
        show Steps p.tables e below (s₁.setTop (mkF m 13 #[.val (.int p3_0)] [(.int (1 : Int32))])) _
        refine XS.goto X0.here hx rfl (pc0 := 13) (pc' := 17) rfl (hb hby d3_13) (by decide) (by decide) ?_
        exact k
      obtain ⟨fs, hr, hrun, hended, hW, hsame⟩ := X0.leave (v := some (.int (1 : Int32))) (fun h => by rw [Bd.returns] at h; cases h)
      refine ⟨_, _, k7 _ ?_, hrun, hended, _, _, rfl, ?_, ⟨_, rfl⟩, hW, hsame.mono (by decide) (by decide)⟩
      · exact retN X0 hx (t := .boolean) Bd.returns (by simp) (hb hby d3_17) hr
      · show Q3 Z p3_0 h0 n0 _ s₁.heap _
        rw [e0]
        exact ⟨congrArg (fun z => some (Value.int z)) (show ((1 : Int32) : Int32) = own_dg2 p3_0 from by unfold own_dg2; rw [if_neg hc3_2, if_neg hc9_5]), N0, rfl⟩
theorem own_dgeq (c : Int32) : own_dg2 c = own_dg c := rfl
theorem pd_0 : parseMethodDescriptor "(C)Z" = some ⟨[.char], some .boolean⟩ := by decide +kernel
theorem d4_0 : decode method_4_code 0 = .ok (.iload_n 1, 1) := by decide +kernel
theorem d4_1 : decode method_4_code 1 = .ok (.bipush 6, 2) := by decide +kernel
theorem d4_3 : decode method_4_code 3 = .ok (.if_icmp .ge 16, 3) := by decide +kernel
theorem d4_6 : decode method_4_code 6 = .ok (.aload_n 0, 1) := by decide +kernel
theorem d4_7 : decode method_4_code 7 = .ok (.iload_n 1, 1) := by decide +kernel
theorem d4_8 : decode method_4_code 8 = .ok (.caload, 1) := by decide +kernel
theorem d4_9 : decode method_4_code 9 = .ok (.invokestatic 24, 3) := by decide +kernel
theorem d4_12 : decode method_4_code 12 = .ok (.ifCond .eq 7, 3) := by decide +kernel
theorem d4_15 : decode method_4_code 15 = .ok (.iload_n 1, 1) := by decide +kernel
theorem d4_16 : decode method_4_code 16 = .ok (.iconst 1, 1) := by decide +kernel
theorem d4_17 : decode method_4_code 17 = .ok (.iadd, 1) := by decide +kernel
theorem d4_18 : decode method_4_code 18 = .ok (.ireturn, 1) := by decide +kernel
theorem d4_19 : decode method_4_code 19 = .ok (.iload_n 1, 1) := by decide +kernel
theorem d4_20 : decode method_4_code 20 = .ok (.ireturn, 1) := by decide +kernel
theorem ef_4 (m : MethodId) (a4_0 : Addr) (p4_1 : Int32) : entryFrame m #[(.ref a4_0), (.int p4_1)] 2 = mkF m 0 #[.val (.ref a4_0), .val (.int p4_1)] [] := by first | (simp [entryFrame, mkF, argsToLocals, Value.category]; done) | rfl
def own_stp (p4_1 : Int32) (c0 : Int32) (c1 : Int32) (c2 : Int32) (c3 : Int32) (c4 : Int32) (c5 : Int32) : Int32 := (if p4_1 < (6 : Int32) then (if (own_dg (own_get6 c0 c1 c2 c3 c4 c5 p4_1)) = (0 : Int32) then p4_1 else (p4_1 + (1 : Int32))) else p4_1)
def Q4 (Z : State) (a4_0 : Addr) (p4_1 : Int32) (kk : ClassId) (c0 : Int32) (c1 : Int32) (c2 : Int32) (c3 : Int32) (c4 : Int32) (c5 : Int32) (h0 : Heap) (n0 : Nat) (v : Option Value) (h : Heap) (L : List Loc) : Prop := v = some (.int (own_stp p4_1 c0 c1 c2 c3 c4 c5)) ∧ Fr n0 L ∧ h = h0
set_option maxRecDepth 65536 in
set_option maxHeartbeats 40000000 in
theorem rm4 (l : Launch) (Z : State) (a0 : Array Value) (hw : ∀ d ∈ tables_1, d.before a0 Z = true) (ws : List Jvm.Cond) (a4_0 : Addr) (p4_1 : Int32) (kk : ClassId) (c0 : Int32) (c1 : Int32) (c2 : Int32) (c3 : Int32) (c4 : Int32) (c5 : Int32) (h0 : Heap) (n0 : Nat) (Z0 : n0 ≤ h0.size) (Vc : Arv Z h0 a4_0 kk .char (6 : Int32) [(.int c0), (.int c1), (.int c2), (.int c3), (.int c4), (.int c5)] (.int (0 : Int32))) (hq0 : ¬ (p4_1 < (0 : Int32))) :
    MetFree l (⟨"com/example/oyster/oyster/engine/LiteralsNumberEndPinLaw", "step", "([CI)I"⟩ : MethodName) (head1 (Jvm.Cond.code (⟨"com/example/oyster/oyster/engine/LiteralsNumberEndPinLaw", "step", "([CI)I"⟩ : MethodName) method_4_code 2 (some .int) :: ws) ({ frames := 1, cells := 0, slots := 0, locals := 12 } : Room)) (fun a U => a = #[(.ref a4_0), (.int p4_1)] ∧ Z.Warmed39 U.vm ∧ U.heap = h0) (fun _ _ _ _ _ => True) (fun _ U o U' => ∃ v L, o = .returned v ∧ Q4 Z a4_0 p4_1 kk c0 c1 c2 c3 c4 c5 h0 n0 v U'.heap L ∧ FrameEnd U o U' L ({ frames := 1, cells := 0, slots := 0, locals := 12 } : Room).cells ({ frames := 1, cells := 0, slots := 0, locals := 12 } : Room).slots) := by
  refine MetFree.of_bodySF (plainFor_of_name pn_0) hisR ?_
  intro p e s m args below meth c s₁ Bd hml0 hP hK
  obtain ⟨rfl, hZ, hh⟩ := hP
  have hx := Bd.exec
  have hby := Bd.bytes
  have hml : c.maxLocals = 2 := hml0
  have hown : s.vm.findClass "com/example/oyster/oyster/engine/LiteralsNumberEndPinLaw" = some m.cls := findClass_of_methodNamed Bd.named
  have hnm := (name_of_methodNamed Bd.named Bd.method).1
  have X0 : Stand p l e ({ frames := 1, cells := 0, slots := 0, locals := 12 } : Room) s m #[(.ref a4_0), (.int p4_1)] below meth c s₁ [] 0 0 := Stand.of_body Bd
  have e0 : s₁.heap = h0 := by rw [← hh, Bd.state]; rfl
  have N0 := Fr.nil n0
  have pre0 : ∀ t, Steps p.tables e below (s₁.setTop (mkF m 0 #[.val (.ref a4_0), .val (.int p4_1)] [])) t → Steps p.tables e below (s₁.setTop (entryFrame m #[(.ref a4_0), (.int p4_1)] 2)) t := fun t k => castTop (ef_4 m a4_0 p4_1) k
  have k1 : ∀ t, Steps p.tables e below (s₁.setTop (mkF m 3 #[.val (.ref a4_0), .val (.int p4_1)] [(.int (6 : Int32)), (.int p4_1)])) t → Steps p.tables e below (s₁.setTop (entryFrame m #[(.ref a4_0), (.int p4_1)] 2)) t := by
    intro t k
    refine pre0 t ?_
    show Steps p.tables e below (s₁.setTop (mkF m 0 #[.val (.ref a4_0), .val (.int p4_1)] [])) _
    refine XS.iloadN X0.here hx rfl (hb hby d4_0) rfl ?_
    show Steps p.tables e below (s₁.setTop (mkF m 1 #[.val (.ref a4_0), .val (.int p4_1)] [(.int p4_1)])) _
    refine XS.bipush X0.here hx rfl (hb hby d4_1) ?_
    exact k
  by_cases hc3_2 : p4_1 < (6 : Int32)
  · skip
    obtain ⟨cl3, Ar3, qc3, Sz3, Nn3, Hh3, Gg3⟩ := (id Vc)
    have hin3 : ¬ (p4_1 < 0 ∨ cl3.slots.size ≤ (p4_1).toNatClampNeg) := inb_of Sz3 ⟨hq0, hc3_2⟩
    obtain ⟨_, _, ⟨T4, L4, k4, n4⟩, -, X4, ⟨Lc4, hQ4, l4, y4, z4⟩, st4⟩ := Jvm.LawKit.callS X0 hx (y := (⟨"com/example/oyster/oyster/engine/LiteralsNumberEndPinLaw", "dig", "(C)Z"⟩ : MethodName)) hown (mvT hZ (hw _ (List.mem_of_getElem? (i := 40) rfl))) (mvT hZ (hw _ (List.mem_of_getElem? (i := 41) rfl))) (mvT hZ (hw _ (List.mem_of_getElem? (i := 5) rfl))) (mvT hZ (hw _ (List.mem_of_getElem? (i := 42) rfl))) (by decide) (backOf (W := 0) (rm2 l Z a0 hw [] (own_get6 c0 c1 c2 c3 c4 c5 p4_1) h0 n0 Z0 ) hZ (hw _ (List.mem_of_getElem? (i := 42) rfl)) (hw _ (List.mem_of_getElem? (i := 5) rfl)) (by decide) (by decide)) (g := (mkF m 9 #[.val (.ref a4_0), .val (.int p4_1)] [(.int (own_get6 c0 c1 c2 c3 c4 c5 p4_1))])) rfl (by rw [hml]; rfl) (argsL := [(.int (own_get6 c0 c1 c2 c3 c4 c5 p4_1))]) (rest := []) (lenOf pd_0 rfl) rfl (by show 2 * 0 + _ ≤ _; exact Nat.le_of_eq rfl) (hb hby d4_9) (fun _ _ => ⟨rfl, e0, (by decide : 0 + 0 ≤ _), (by decide : 0 + 0 ≤ _)⟩)
    dsimp only [Pt.U, Pt.locs, Pt.cells, Pt.slots] at X4 l4 y4 z4 st4 hQ4
    rw [l4, y4, z4] at X4
    obtain ⟨rfl, N4q, eh4⟩ := hQ4
    have N4 := Fr.app N0 N4q
    have k5 : ∀ t, Steps p.tables e below (T4.setTop (mkF m 12 #[.val (.ref a4_0), .val (.int p4_1)] [(.int (own_dg (own_get6 c0 c1 c2 c3 c4 c5 p4_1)))])) t → Steps p.tables e below (s₁.setTop (entryFrame m #[(.ref a4_0), (.int p4_1)] 2)) t := by
      intro t k
      refine k1 t ?_
      show Steps p.tables e below (s₁.setTop (mkF m 3 #[.val (.ref a4_0), .val (.int p4_1)] [(.int (6 : Int32)), (.int p4_1)])) _
      refine XS.icmpNo X0.here hx rfl (hb hby d4_3) rfl (tlt hc3_2).2.1 ?_
      show Steps p.tables e below (s₁.setTop (mkF m 6 #[.val (.ref a4_0), .val (.int p4_1)] [])) _
      refine XS.aloadN X0.here hx rfl (hb hby d4_6) rfl rfl ?_
      show Steps p.tables e below (s₁.setTop (mkF m 7 #[.val (.ref a4_0), .val (.int p4_1)] [(.ref a4_0)])) _
      refine XS.iloadN X0.here hx rfl (hb hby d4_7) rfl ?_
      show Steps p.tables e below (s₁.setTop (mkF m 8 #[.val (.ref a4_0), .val (.int p4_1)] [(.int p4_1), (.ref a4_0)])) _
      refine X0.caload hx (j := p4_1) (v := (.int (own_get6 c0 c1 c2 c3 c4 c5 p4_1))) (by rw [e0]; exact Ar3.1) (State.isArrayOf_alike hZ.alike Ar3.2.1) Ar3.2.2 hin3 (own_has6 Hh3 hin3 hq0 hc3_2) (g := (mkF m 8 #[.val (.ref a4_0), .val (.int p4_1)] [(.int p4_1), (.ref a4_0)])) rfl rfl (hb hby d4_8) _ ?_
      show Steps p.tables e below (s₁.setTop (mkF m 9 #[.val (.ref a4_0), .val (.int p4_1)] [(.int (own_get6 c0 c1 c2 c3 c4 c5 p4_1))])) _
      refine st4 _ ?_
      exact k
    by_cases hc12_6 : (own_dg (own_get6 c0 c1 c2 c3 c4 c5 p4_1)) = (0 : Int32)
    · skip
      have k7 : ∀ t, Steps p.tables e below (T4.setTop (mkF m 20 #[.val (.ref a4_0), .val (.int p4_1)] [(.int p4_1)])) t → Steps p.tables e below (s₁.setTop (entryFrame m #[(.ref a4_0), (.int p4_1)] 2)) t := by
        intro t k
        refine k5 t ?_
        show Steps p.tables e below (T4.setTop (mkF m 12 #[.val (.ref a4_0), .val (.int p4_1)] [(.int (own_dg (own_get6 c0 c1 c2 c3 c4 c5 p4_1)))])) _
        refine XS.ifYes X4.here hx rfl (pc0 := 12) (pc' := 19) rfl (hb hby d4_12) rfl ((if0 _ _).trans (teq hc12_6).1) (by decide) (by decide) ?_
        show Steps p.tables e below (T4.setTop (mkF m 19 #[.val (.ref a4_0), .val (.int p4_1)] [])) _
        refine XS.iloadN X4.here hx rfl (hb hby d4_19) rfl ?_
        exact k
      obtain ⟨fs, hr, hrun, hended, hW, hsame⟩ := X4.leave (v := some (.int p4_1)) (fun h => by rw [Bd.returns] at h; cases h)
      refine ⟨_, _, k7 _ ?_, hrun, hended, _, _, rfl, ?_, ⟨_, rfl⟩, hW, hsame.mono (by decide) (by decide)⟩
      · exact retI X4 hx Bd.returns (hb hby d4_20) hr
      · show Q4 Z a4_0 p4_1 kk c0 c1 c2 c3 c4 c5 h0 n0 _ T4.heap _
        rw [eh4]
        exact ⟨congrArg (fun z => some (Value.int z)) (show (p4_1 : Int32) = own_stp p4_1 c0 c1 c2 c3 c4 c5 from by unfold own_stp; rw [if_pos hc3_2, if_pos hc12_6]), N4, rfl⟩
    · skip
      have k8 : ∀ t, Steps p.tables e below (T4.setTop (mkF m 18 #[.val (.ref a4_0), .val (.int p4_1)] [(.int (p4_1 + (1 : Int32)))])) t → Steps p.tables e below (s₁.setTop (entryFrame m #[(.ref a4_0), (.int p4_1)] 2)) t := by
        intro t k
        refine k5 t ?_
        show Steps p.tables e below (T4.setTop (mkF m 12 #[.val (.ref a4_0), .val (.int p4_1)] [(.int (own_dg (own_get6 c0 c1 c2 c3 c4 c5 p4_1)))])) _
        refine XS.ifNo X4.here hx rfl (hb hby d4_12) rfl ((if0 _ _).trans (feq hc12_6).1) ?_
        show Steps p.tables e below (T4.setTop (mkF m 15 #[.val (.ref a4_0), .val (.int p4_1)] [])) _
        refine XS.iloadN X4.here hx rfl (hb hby d4_15) rfl ?_
        show Steps p.tables e below (T4.setTop (mkF m 16 #[.val (.ref a4_0), .val (.int p4_1)] [(.int p4_1)])) _
        refine XS.iconst X4.here hx rfl (hb hby d4_16) ?_
        show Steps p.tables e below (T4.setTop (mkF m 17 #[.val (.ref a4_0), .val (.int p4_1)] [(.int (1 : Int32)), (.int p4_1)])) _
        refine XS.iadd X4.here hx rfl (hb hby d4_17) rfl ?_
        exact k
      obtain ⟨fs, hr, hrun, hended, hW, hsame⟩ := X4.leave (v := some (.int (p4_1 + (1 : Int32)))) (fun h => by rw [Bd.returns] at h; cases h)
      refine ⟨_, _, k8 _ ?_, hrun, hended, _, _, rfl, ?_, ⟨_, rfl⟩, hW, hsame.mono (by decide) (by decide)⟩
      · exact retI X4 hx Bd.returns (hb hby d4_18) hr
      · show Q4 Z a4_0 p4_1 kk c0 c1 c2 c3 c4 c5 h0 n0 _ T4.heap _
        rw [eh4]
        exact ⟨congrArg (fun z => some (Value.int z)) (show ((p4_1 + (1 : Int32)) : Int32) = own_stp p4_1 c0 c1 c2 c3 c4 c5 from by unfold own_stp; rw [if_pos hc3_2, if_neg hc12_6]), N4, rfl⟩
  · skip
    have k9 : ∀ t, Steps p.tables e below (s₁.setTop (mkF m 20 #[.val (.ref a4_0), .val (.int p4_1)] [(.int p4_1)])) t → Steps p.tables e below (s₁.setTop (entryFrame m #[(.ref a4_0), (.int p4_1)] 2)) t := by
      intro t k
      refine k1 t ?_
      show Steps p.tables e below (s₁.setTop (mkF m 3 #[.val (.ref a4_0), .val (.int p4_1)] [(.int (6 : Int32)), (.int p4_1)])) _
      refine XS.icmpYes X0.here hx rfl (pc0 := 3) (pc' := 19) rfl (hb hby d4_3) rfl (flt hc3_2).2.1 (by decide) (by decide) ?_
      show Steps p.tables e below (s₁.setTop (mkF m 19 #[.val (.ref a4_0), .val (.int p4_1)] [])) _
      refine XS.iloadN X0.here hx rfl (hb hby d4_19) rfl ?_
      exact k
    obtain ⟨fs, hr, hrun, hended, hW, hsame⟩ := X0.leave (v := some (.int p4_1)) (fun h => by rw [Bd.returns] at h; cases h)
    refine ⟨_, _, k9 _ ?_, hrun, hended, _, _, rfl, ?_, ⟨_, rfl⟩, hW, hsame.mono (by decide) (by decide)⟩
    · exact retI X0 hx Bd.returns (hb hby d4_20) hr
    · show Q4 Z a4_0 p4_1 kk c0 c1 c2 c3 c4 c5 h0 n0 _ s₁.heap _
      rw [e0]
      exact ⟨congrArg (fun z => some (Value.int z)) (show (p4_1 : Int32) = own_stp p4_1 c0 c1 c2 c3 c4 c5 from by unfold own_stp; rw [if_neg hc3_2]), N0, rfl⟩
theorem pd_1 : parseMethodDescriptor "()I" = some ⟨[], some .int⟩ := by decide +kernel
theorem pd_2 : parseMethodDescriptor "(I)C" = some ⟨[.int], some .char⟩ := by decide +kernel
theorem d5_0 : decode prog_13_method_5_code 0 = .ok (.iload_n 1, 1) := by decide +kernel
theorem d5_1 : decode prog_13_method_5_code 1 = .ok (.aload_n 0, 1) := by decide +kernel
theorem d5_2 : decode prog_13_method_5_code 2 = .ok (.invokevirtual 13, 3) := by decide +kernel
theorem d5_5 : decode prog_13_method_5_code 5 = .ok (.if_icmp .ge 20, 3) := by decide +kernel
theorem d5_8 : decode prog_13_method_5_code 8 = .ok (.aload_n 0, 1) := by decide +kernel
theorem d5_9 : decode prog_13_method_5_code 9 = .ok (.iload_n 1, 1) := by decide +kernel
theorem d5_10 : decode prog_13_method_5_code 10 = .ok (.invokevirtual 19, 3) := by decide +kernel
theorem d5_13 : decode prog_13_method_5_code 13 = .ok (.invokestatic 23, 3) := by decide +kernel
theorem d5_16 : decode prog_13_method_5_code 16 = .ok (.ifCond .eq 9, 3) := by decide +kernel
theorem d5_19 : decode prog_13_method_5_code 19 = .ok (.iinc 1 1, 3) := by decide +kernel
theorem d5_22 : decode prog_13_method_5_code 22 = .ok (.goto (-22), 3) := by decide +kernel
theorem d5_25 : decode prog_13_method_5_code 25 = .ok (.iload_n 1, 1) := by decide +kernel
theorem d5_26 : decode prog_13_method_5_code 26 = .ok (.ireturn, 1) := by decide +kernel
theorem ef_5 (m : MethodId) (a5_0 : Addr) (p5_1 : Int32) : entryFrame m #[(.ref a5_0), (.int p5_1)] 2 = mkF m 0 #[.val (.ref a5_0), .val (.int p5_1)] [] := by first | (simp [entryFrame, mkF, argsToLocals, Value.category]; done) | rfl
def own_de (p5_1 : Int32) (c0 : Int32) (c1 : Int32) (c2 : Int32) (c3 : Int32) (c4 : Int32) (c5 : Int32) : Int32 := (if p5_1 < (6 : Int32) then (if (own_dg2 (own_get6 c0 c1 c2 c3 c4 c5 p5_1)) = (0 : Int32) then p5_1 else (if (p5_1 + (1 : Int32)) < (6 : Int32) then (if (own_dg2 (own_get6 c0 c1 c2 c3 c4 c5 (p5_1 + (1 : Int32)))) = (0 : Int32) then (p5_1 + (1 : Int32)) else (if ((p5_1 + (1 : Int32)) + (1 : Int32)) < (6 : Int32) then (if (own_dg2 (own_get6 c0 c1 c2 c3 c4 c5 ((p5_1 + (1 : Int32)) + (1 : Int32)))) = (0 : Int32) then ((p5_1 + (1 : Int32)) + (1 : Int32)) else (if (((p5_1 + (1 : Int32)) + (1 : Int32)) + (1 : Int32)) < (6 : Int32) then (if (own_dg2 (own_get6 c0 c1 c2 c3 c4 c5 (((p5_1 + (1 : Int32)) + (1 : Int32)) + (1 : Int32)))) = (0 : Int32) then (((p5_1 + (1 : Int32)) + (1 : Int32)) + (1 : Int32)) else (if ((((p5_1 + (1 : Int32)) + (1 : Int32)) + (1 : Int32)) + (1 : Int32)) < (6 : Int32) then (if (own_dg2 (own_get6 c0 c1 c2 c3 c4 c5 ((((p5_1 + (1 : Int32)) + (1 : Int32)) + (1 : Int32)) + (1 : Int32)))) = (0 : Int32) then ((((p5_1 + (1 : Int32)) + (1 : Int32)) + (1 : Int32)) + (1 : Int32)) else (if (((((p5_1 + (1 : Int32)) + (1 : Int32)) + (1 : Int32)) + (1 : Int32)) + (1 : Int32)) < (6 : Int32) then (if (own_dg2 (own_get6 c0 c1 c2 c3 c4 c5 (((((p5_1 + (1 : Int32)) + (1 : Int32)) + (1 : Int32)) + (1 : Int32)) + (1 : Int32)))) = (0 : Int32) then (((((p5_1 + (1 : Int32)) + (1 : Int32)) + (1 : Int32)) + (1 : Int32)) + (1 : Int32)) else ((((((p5_1 + (1 : Int32)) + (1 : Int32)) + (1 : Int32)) + (1 : Int32)) + (1 : Int32)) + (1 : Int32))) else (((((p5_1 + (1 : Int32)) + (1 : Int32)) + (1 : Int32)) + (1 : Int32)) + (1 : Int32)))) else ((((p5_1 + (1 : Int32)) + (1 : Int32)) + (1 : Int32)) + (1 : Int32)))) else (((p5_1 + (1 : Int32)) + (1 : Int32)) + (1 : Int32)))) else ((p5_1 + (1 : Int32)) + (1 : Int32)))) else (p5_1 + (1 : Int32)))) else p5_1)
def Q5 (Z : State) (a5_0 : Addr) (p5_1 : Int32) (tt : Addr) (kk : ClassId) (cs : Int32) (fm : Value) (c0 : Int32) (c1 : Int32) (c2 : Int32) (c3 : Int32) (c4 : Int32) (c5 : Int32) (h0 : Heap) (n0 : Nat) (v : Option Value) (h : Heap) (L : List Loc) : Prop := v = some (.int (own_de p5_1 c0 c1 c2 c3 c4 c5)) ∧ Fr n0 L ∧ h = h0
set_option maxRecDepth 65536 in
set_option maxHeartbeats 40000000 in
theorem rm5 (l : Launch) (Z : State) (a0 : Array Value) (hw : ∀ d ∈ tables_1, d.before a0 Z = true) (ws : List Jvm.Cond) (a5_0 : Addr) (p5_1 : Int32) (tt : Addr) (kk : ClassId) (cs : Int32) (fm : Value) (c0 : Int32) (c1 : Int32) (c2 : Int32) (c3 : Int32) (c4 : Int32) (c5 : Int32) (h0 : Heap) (n0 : Nat) (Z0 : n0 ≤ h0.size) (Es : Exa Z h0 a5_0 "java/lang/String") (Fv : Fld Z h0 a5_0 "java/lang/String" "value" "[B" (.ref tt)) (Fc : Fld Z h0 a5_0 "java/lang/String" "coder" "B" (.int (0 : Int32))) (Vb : Arv Z h0 tt kk .byte (6 : Int32) (List.map Value.int (List.map (fun c => c.toInt8.toInt32) ([c0, c1, c2, c3, c4, c5] : List Int32))) (.int (0 : Int32))) (Sc : Sta Z h0 "java/lang/String" "COMPACT_STRINGS" "Z" (.int cs)) (Sf : Sta Z h0 "jdk/internal/util/Preconditions" "SIOOBE_FORMATTER" "Ljava/util/function/BiFunction;" fm) (hq0 : ¬ (p5_1 < (0 : Int32))) (hcs : ¬ (cs = (0 : Int32))) (hfm : fm.isRef = true) (hp : ∀ c ∈ ([c0, c1, c2, c3, c4, c5] : List Int32), ¬ c < 0 ∧ ¬ (255 : Int32) < c) :
    MetFree l (⟨"com/example/oyster/oyster/engine/Literals", "digitsEnd", "(Ljava/lang/String;I)I"⟩ : MethodName) (head1 (Jvm.Cond.code (⟨"com/example/oyster/oyster/engine/Literals", "digitsEnd", "(Ljava/lang/String;I)I"⟩ : MethodName) prog_13_method_5_code 2 (some .int) :: ws) ({ frames := 4, cells := 0, slots := 0, locals := 53 } : Room)) (fun a U => a = #[(.ref a5_0), (.int p5_1)] ∧ Z.Warmed39 U.vm ∧ U.heap = h0) (fun _ _ _ _ _ => True) (fun _ U o U' => ∃ v L, o = .returned v ∧ Q5 Z a5_0 p5_1 tt kk cs fm c0 c1 c2 c3 c4 c5 h0 n0 v U'.heap L ∧ FrameEnd U o U' L ({ frames := 4, cells := 0, slots := 0, locals := 53 } : Room).cells ({ frames := 4, cells := 0, slots := 0, locals := 53 } : Room).slots) := by
  refine MetFree.of_bodySF (plainFor_of_name pn_1) hisR ?_
  intro p e s m args below meth c s₁ Bd hml0 hP hK
  obtain ⟨rfl, hZ, hh⟩ := hP
  have hx := Bd.exec
  have hby := Bd.bytes
  have hml : c.maxLocals = 2 := hml0
  have hown : s.vm.findClass "com/example/oyster/oyster/engine/Literals" = some m.cls := findClass_of_methodNamed Bd.named
  have hnm := (name_of_methodNamed Bd.named Bd.method).1
  have X0 : Stand p l e ({ frames := 4, cells := 0, slots := 0, locals := 53 } : Room) s m #[(.ref a5_0), (.int p5_1)] below meth c s₁ [] 0 0 := Stand.of_body Bd
  have e0 : s₁.heap = h0 := by rw [← hh, Bd.state]; rfl
  have N0 := Fr.nil n0
  have pre0 : ∀ t, Steps p.tables e below (s₁.setTop (mkF m 0 #[.val (.ref a5_0), .val (.int p5_1)] [])) t → Steps p.tables e below (s₁.setTop (entryFrame m #[(.ref a5_0), (.int p5_1)] 2)) t := fun t k => castTop (ef_5 m a5_0 p5_1) k
  obtain ⟨cq1, kq1, q1a, q1b, q1c⟩ := isOf hZ e0 Es
  obtain ⟨_, _, ⟨T1, L1, k1, n1⟩, -, X1, ⟨Lc1, hQ1, l1, y1, z1⟩, st1⟩ := X0.virtualBack hx (y := (⟨"java/lang/String", "length", "()I"⟩ : MethodName)) (z := (⟨"java/lang/String", "length", "()I"⟩ : MethodName)) hown (mvT hZ (hw _ (List.mem_of_getElem? (i := 50) rfl))) (mvT hZ (hw _ (List.mem_of_getElem? (i := 51) rfl))) (notFace_of_selects (args := #[]) (mvT hZ (hw _ (List.mem_of_getElem? (i := 53) rfl)))) (mvT hZ (hw _ (List.mem_of_getElem? (i := 53) rfl))) (mvT hZ (hw _ (List.mem_of_getElem? (i := 52) rfl))) (by decide) (StrChars.Road.lenW (W := 1) hZ (fun d hd => hw d (own_sub_lenW d hd)) (kI := 4) (hw _ (List.mem_of_getElem? (i := 9) rfl)) Es Fv Fc Vb (StrChars.Road.codOf rfl (fun c hc => (hp c hc).2)) (own_u16 hp) Sc hcs (Nat.le_of_ble_eq_true rfl) (by decide) (by decide)) q1a q1c (g := (mkF m 2 #[.val (.ref a5_0), .val (.int p5_1)] [(.ref a5_0), (.int p5_1)])) rfl (by rw [hml]; rfl) (Steps.refl _) (argsL := []) (rest := [(.int p5_1)]) (lenOf pd_1 rfl) rfl (by show 2 * 0 + _ ≤ _; exact Nat.le_of_eq rfl) (hb hby d5_2) (fun _ _ => ⟨rfl, e0, (by decide : 0 + 0 ≤ _), (by decide : 0 + 0 ≤ _)⟩)
  dsimp only [Pt.U, Pt.locs, Pt.cells, Pt.slots] at X1 l1 y1 z1 st1 hQ1
  rw [l1, y1, z1] at X1
  obtain ⟨rfl, rfl, eh1⟩ := hQ1
  have N1 := Fr.app N0 (Fr.nil n0)
  have k2 : ∀ t, Steps p.tables e below (T1.setTop (mkF m 5 #[.val (.ref a5_0), .val (.int p5_1)] [(.int (6 : Int32)), (.int p5_1)])) t → Steps p.tables e below (s₁.setTop (entryFrame m #[(.ref a5_0), (.int p5_1)] 2)) t := by
    intro t k
    refine pre0 t ?_
    show Steps p.tables e below (s₁.setTop (mkF m 0 #[.val (.ref a5_0), .val (.int p5_1)] [])) _
    refine XS.iloadN X0.here hx rfl (hb hby d5_0) rfl ?_
    show Steps p.tables e below (s₁.setTop (mkF m 1 #[.val (.ref a5_0), .val (.int p5_1)] [(.int p5_1)])) _
    refine XS.aloadN X0.here hx rfl (hb hby d5_1) rfl rfl ?_
    show Steps p.tables e below (s₁.setTop (mkF m 2 #[.val (.ref a5_0), .val (.int p5_1)] [(.ref a5_0), (.int p5_1)])) _
    refine st1.trans ?_
    exact k
  by_cases hc5_3 : p5_1 < (6 : Int32)
  · skip
    obtain ⟨cq4, kq4, q4a, q4b, q4c⟩ := isOf hZ eh1 Es
    obtain ⟨_, _, ⟨T4, L4, k4, n4⟩, -, X4, ⟨Lc4, hQ4, l4, y4, z4⟩, st4⟩ := X1.virtualBack hx (y := (⟨"java/lang/String", "charAt", "(I)C"⟩ : MethodName)) (z := (⟨"java/lang/String", "charAt", "(I)C"⟩ : MethodName)) hown (mvT hZ (hw _ (List.mem_of_getElem? (i := 60) rfl))) (mvT hZ (hw _ (List.mem_of_getElem? (i := 61) rfl))) (notFace_of_selects (args := #[]) (mvT hZ (hw _ (List.mem_of_getElem? (i := 63) rfl)))) (mvT hZ (hw _ (List.mem_of_getElem? (i := 63) rfl))) (mvT hZ (hw _ (List.mem_of_getElem? (i := 62) rfl))) (by decide) (StrChars.Road.chN (W := 0) hZ (fun d hd => hw d (own_sub_chN d hd)) (kI := 4) (hw _ (List.mem_of_getElem? (i := 9) rfl)) Es Fv Fc Vb (StrChars.Road.codOf rfl (fun c hc => (hp c hc).2)) (own_u16 hp) Sc hcs Sf hfm (Nat.le_of_ble_eq_true rfl) (i := (p5_1).toNatClampNeg) (own_ilt hq0 hc5_3) (j := p5_1) (own_ofn _ hq0) (by decide) (by decide)) q4a q4c (g := (mkF m 10 #[.val (.ref a5_0), .val (.int p5_1)] [(.int p5_1), (.ref a5_0)])) rfl (by rw [hml]; rfl) (Steps.refl _) (argsL := [(.int p5_1)]) (rest := []) (lenOf pd_2 rfl) rfl (by show 2 * 0 + _ ≤ _; exact Nat.le_of_eq rfl) (hb hby d5_10) (fun _ _ => ⟨rfl, eh1, (by decide : 0 + 0 ≤ _), (by decide : 0 + 0 ≤ _)⟩)
    dsimp only [Pt.U, Pt.locs, Pt.cells, Pt.slots] at X4 l4 y4 z4 st4 hQ4
    rw [l4, y4, z4] at X4
    rw [own_getD6 _ _ _ _ _ _ _ hq0 hc5_3] at hQ4
    obtain ⟨rfl, rfl, eh4⟩ := hQ4
    have N4 := Fr.app N1 (Fr.nil n0)
    obtain ⟨_, _, ⟨T5, L5, k5, n5⟩, -, X5, ⟨Lc5, hQ5, l5, y5, z5⟩, st5⟩ := Jvm.LawKit.callS X4 hx (y := (⟨"com/example/oyster/oyster/engine/Literals", "isDigit", "(C)Z"⟩ : MethodName)) hown (mvT hZ (hw _ (List.mem_of_getElem? (i := 82) rfl))) (mvT hZ (hw _ (List.mem_of_getElem? (i := 83) rfl))) (mvT hZ (hw _ (List.mem_of_getElem? (i := 45) rfl))) (mvT hZ (hw _ (List.mem_of_getElem? (i := 84) rfl))) (by decide) (backOf (W := 0) (rm3 l Z a0 hw [] (own_get6 c0 c1 c2 c3 c4 c5 p5_1) h0 n0 Z0 ) hZ (hw _ (List.mem_of_getElem? (i := 84) rfl)) (hw _ (List.mem_of_getElem? (i := 45) rfl)) (by decide) (by decide)) (g := (mkF m 13 #[.val (.ref a5_0), .val (.int p5_1)] [(.int (own_get6 c0 c1 c2 c3 c4 c5 p5_1))])) rfl (by rw [hml]; rfl) (argsL := [(.int (own_get6 c0 c1 c2 c3 c4 c5 p5_1))]) (rest := []) (lenOf pd_0 rfl) rfl (by show 2 * 0 + _ ≤ _; exact Nat.le_of_eq rfl) (hb hby d5_13) (fun _ _ => ⟨rfl, eh4, (by decide : 0 + 0 ≤ _), (by decide : 0 + 0 ≤ _)⟩)
    dsimp only [Pt.U, Pt.locs, Pt.cells, Pt.slots] at X5 l5 y5 z5 st5 hQ5
    rw [l5, y5, z5] at X5
    obtain ⟨rfl, N5q, eh5⟩ := hQ5
    have N5 := Fr.app N4 N5q
    have k6 : ∀ t, Steps p.tables e below (T5.setTop (mkF m 16 #[.val (.ref a5_0), .val (.int p5_1)] [(.int (own_dg2 (own_get6 c0 c1 c2 c3 c4 c5 p5_1)))])) t → Steps p.tables e below (s₁.setTop (entryFrame m #[(.ref a5_0), (.int p5_1)] 2)) t := by
      intro t k
      refine k2 t ?_
      show Steps p.tables e below (T1.setTop (mkF m 5 #[.val (.ref a5_0), .val (.int p5_1)] [(.int (6 : Int32)), (.int p5_1)])) _
      refine XS.icmpNo X1.here hx rfl (hb hby d5_5) rfl (tlt hc5_3).2.1 ?_
      show Steps p.tables e below (T1.setTop (mkF m 8 #[.val (.ref a5_0), .val (.int p5_1)] [])) _
      refine XS.aloadN X1.here hx rfl (hb hby d5_8) rfl rfl ?_
      show Steps p.tables e below (T1.setTop (mkF m 9 #[.val (.ref a5_0), .val (.int p5_1)] [(.ref a5_0)])) _
      refine XS.iloadN X1.here hx rfl (hb hby d5_9) rfl ?_
      show Steps p.tables e below (T1.setTop (mkF m 10 #[.val (.ref a5_0), .val (.int p5_1)] [(.int p5_1), (.ref a5_0)])) _
      refine st4.trans ?_
      show Steps p.tables e below (T4.setTop (mkF m 13 #[.val (.ref a5_0), .val (.int p5_1)] [(.int (own_get6 c0 c1 c2 c3 c4 c5 p5_1))])) _
      refine st5 _ ?_
      exact k
    by_cases hc16_7 : (own_dg2 (own_get6 c0 c1 c2 c3 c4 c5 p5_1)) = (0 : Int32)
    · skip
      have k8 : ∀ t, Steps p.tables e below (T5.setTop (mkF m 26 #[.val (.ref a5_0), .val (.int p5_1)] [(.int p5_1)])) t → Steps p.tables e below (s₁.setTop (entryFrame m #[(.ref a5_0), (.int p5_1)] 2)) t := by
        intro t k
        refine k6 t ?_
        show Steps p.tables e below (T5.setTop (mkF m 16 #[.val (.ref a5_0), .val (.int p5_1)] [(.int (own_dg2 (own_get6 c0 c1 c2 c3 c4 c5 p5_1)))])) _
        refine XS.ifYes X5.here hx rfl (pc0 := 16) (pc' := 25) rfl (hb hby d5_16) rfl ((if0 _ _).trans (teq hc16_7).1) (by decide) (by decide) ?_
        show Steps p.tables e below (T5.setTop (mkF m 25 #[.val (.ref a5_0), .val (.int p5_1)] [])) _
        refine XS.iloadN X5.here hx rfl (hb hby d5_25) rfl ?_
        exact k
      obtain ⟨fs, hr, hrun, hended, hW, hsame⟩ := X5.leave (v := some (.int p5_1)) (fun h => by rw [Bd.returns] at h; cases h)
      refine ⟨_, _, k8 _ ?_, hrun, hended, _, _, rfl, ?_, ⟨_, rfl⟩, hW, hsame.mono (by decide) (by decide)⟩
      · exact retI X5 hx Bd.returns (hb hby d5_26) hr
      · show Q5 Z a5_0 p5_1 tt kk cs fm c0 c1 c2 c3 c4 c5 h0 n0 _ T5.heap _
        rw [eh5]
        exact ⟨congrArg (fun z => some (Value.int z)) (show (p5_1 : Int32) = own_de p5_1 c0 c1 c2 c3 c4 c5 from by unfold own_de; rw [if_pos hc5_3, if_pos hc16_7]), N5, rfl⟩
    · skip
      obtain ⟨cq9, kq9, q9a, q9b, q9c⟩ := isOf hZ eh5 Es
      obtain ⟨_, _, ⟨T9, L9, k9, n9⟩, -, X9, ⟨Lc9, hQ9, l9, y9, z9⟩, st9⟩ := X5.virtualBack hx (y := (⟨"java/lang/String", "length", "()I"⟩ : MethodName)) (z := (⟨"java/lang/String", "length", "()I"⟩ : MethodName)) hown (mvT hZ (hw _ (List.mem_of_getElem? (i := 50) rfl))) (mvT hZ (hw _ (List.mem_of_getElem? (i := 51) rfl))) (notFace_of_selects (args := #[]) (mvT hZ (hw _ (List.mem_of_getElem? (i := 53) rfl)))) (mvT hZ (hw _ (List.mem_of_getElem? (i := 53) rfl))) (mvT hZ (hw _ (List.mem_of_getElem? (i := 52) rfl))) (by decide) (StrChars.Road.lenW (W := 1) hZ (fun d hd => hw d (own_sub_lenW d hd)) (kI := 4) (hw _ (List.mem_of_getElem? (i := 9) rfl)) Es Fv Fc Vb (StrChars.Road.codOf rfl (fun c hc => (hp c hc).2)) (own_u16 hp) Sc hcs (Nat.le_of_ble_eq_true rfl) (by decide) (by decide)) q9a q9c (g := (mkF m 2 #[.val (.ref a5_0), .val (.int (p5_1 + (1 : Int32)))] [(.ref a5_0), (.int (p5_1 + (1 : Int32)))])) rfl (by rw [hml]; rfl) (Steps.refl _) (argsL := []) (rest := [(.int (p5_1 + (1 : Int32)))]) (lenOf pd_1 rfl) rfl (by show 2 * 0 + _ ≤ _; exact Nat.le_of_eq rfl) (hb hby d5_2) (fun _ _ => ⟨rfl, eh5, (by decide : 0 + 0 ≤ _), (by decide : 0 + 0 ≤ _)⟩)
      dsimp only [Pt.U, Pt.locs, Pt.cells, Pt.slots] at X9 l9 y9 z9 st9 hQ9
      rw [l9, y9, z9] at X9
      obtain ⟨rfl, rfl, eh9⟩ := hQ9
      have N9 := Fr.app N5 (Fr.nil n0)
      have k10 : ∀ t, Steps p.tables e below (T9.setTop (mkF m 5 #[.val (.ref a5_0), .val (.int (p5_1 + (1 : Int32)))] [(.int (6 : Int32)), (.int (p5_1 + (1 : Int32)))])) t → Steps p.tables e below (s₁.setTop (entryFrame m #[(.ref a5_0), (.int p5_1)] 2)) t := by
        intro t k
        refine k6 t ?_
        show Steps p.tables e below (T5.setTop (mkF m 16 #[.val (.ref a5_0), .val (.int p5_1)] [(.int (own_dg2 (own_get6 c0 c1 c2 c3 c4 c5 p5_1)))])) _
        refine XS.ifNo X5.here hx rfl (hb hby d5_16) rfl ((if0 _ _).trans (feq hc16_7).1) ?_
        show Steps p.tables e below (T5.setTop (mkF m 19 #[.val (.ref a5_0), .val (.int p5_1)] [])) _
        refine XS.iinc X5.here hx rfl (hb hby d5_19) rfl (l' := #[.val (.ref a5_0), .val (.int (p5_1 + (1 : Int32)))]) rfl ?_
        show Steps p.tables e below (T5.setTop (mkF m 22 #[.val (.ref a5_0), .val (.int (p5_1 + (1 : Int32)))] [])) _
        refine XS.goto X5.here hx rfl (pc0 := 22) (pc' := 0) rfl (hb hby d5_22) (by decide) (by decide) ?_
        show Steps p.tables e below (T5.setTop (mkF m 0 #[.val (.ref a5_0), .val (.int (p5_1 + (1 : Int32)))] [])) _
        refine XS.iloadN X5.here hx rfl (hb hby d5_0) rfl ?_
        show Steps p.tables e below (T5.setTop (mkF m 1 #[.val (.ref a5_0), .val (.int (p5_1 + (1 : Int32)))] [(.int (p5_1 + (1 : Int32)))])) _
        refine XS.aloadN X5.here hx rfl (hb hby d5_1) rfl rfl ?_
        show Steps p.tables e below (T5.setTop (mkF m 2 #[.val (.ref a5_0), .val (.int (p5_1 + (1 : Int32)))] [(.ref a5_0), (.int (p5_1 + (1 : Int32)))])) _
        refine st9.trans ?_
        exact k
      by_cases hc5_11 : (p5_1 + (1 : Int32)) < (6 : Int32)
      · skip
        obtain ⟨cq12, kq12, q12a, q12b, q12c⟩ := isOf hZ eh9 Es
        obtain ⟨_, _, ⟨T12, L12, k12, n12⟩, -, X12, ⟨Lc12, hQ12, l12, y12, z12⟩, st12⟩ := X9.virtualBack hx (y := (⟨"java/lang/String", "charAt", "(I)C"⟩ : MethodName)) (z := (⟨"java/lang/String", "charAt", "(I)C"⟩ : MethodName)) hown (mvT hZ (hw _ (List.mem_of_getElem? (i := 60) rfl))) (mvT hZ (hw _ (List.mem_of_getElem? (i := 61) rfl))) (notFace_of_selects (args := #[]) (mvT hZ (hw _ (List.mem_of_getElem? (i := 63) rfl)))) (mvT hZ (hw _ (List.mem_of_getElem? (i := 63) rfl))) (mvT hZ (hw _ (List.mem_of_getElem? (i := 62) rfl))) (by decide) (StrChars.Road.chN (W := 0) hZ (fun d hd => hw d (own_sub_chN d hd)) (kI := 4) (hw _ (List.mem_of_getElem? (i := 9) rfl)) Es Fv Fc Vb (StrChars.Road.codOf rfl (fun c hc => (hp c hc).2)) (own_u16 hp) Sc hcs Sf hfm (Nat.le_of_ble_eq_true rfl) (i := ((p5_1 + (1 : Int32))).toNatClampNeg) (own_ilt (own_nn _ hq0 hc5_3).1 hc5_11) (j := (p5_1 + (1 : Int32))) (own_ofn _ (own_nn _ hq0 hc5_3).1) (by decide) (by decide)) q12a q12c (g := (mkF m 10 #[.val (.ref a5_0), .val (.int (p5_1 + (1 : Int32)))] [(.int (p5_1 + (1 : Int32))), (.ref a5_0)])) rfl (by rw [hml]; rfl) (Steps.refl _) (argsL := [(.int (p5_1 + (1 : Int32)))]) (rest := []) (lenOf pd_2 rfl) rfl (by show 2 * 0 + _ ≤ _; exact Nat.le_of_eq rfl) (hb hby d5_10) (fun _ _ => ⟨rfl, eh9, (by decide : 0 + 0 ≤ _), (by decide : 0 + 0 ≤ _)⟩)
        dsimp only [Pt.U, Pt.locs, Pt.cells, Pt.slots] at X12 l12 y12 z12 st12 hQ12
        rw [l12, y12, z12] at X12
        rw [own_getD6 _ _ _ _ _ _ _ (own_nn _ hq0 hc5_3).1 hc5_11] at hQ12
        obtain ⟨rfl, rfl, eh12⟩ := hQ12
        have N12 := Fr.app N9 (Fr.nil n0)
        obtain ⟨_, _, ⟨T13, L13, k13, n13⟩, -, X13, ⟨Lc13, hQ13, l13, y13, z13⟩, st13⟩ := Jvm.LawKit.callS X12 hx (y := (⟨"com/example/oyster/oyster/engine/Literals", "isDigit", "(C)Z"⟩ : MethodName)) hown (mvT hZ (hw _ (List.mem_of_getElem? (i := 82) rfl))) (mvT hZ (hw _ (List.mem_of_getElem? (i := 83) rfl))) (mvT hZ (hw _ (List.mem_of_getElem? (i := 45) rfl))) (mvT hZ (hw _ (List.mem_of_getElem? (i := 84) rfl))) (by decide) (backOf (W := 0) (rm3 l Z a0 hw [] (own_get6 c0 c1 c2 c3 c4 c5 (p5_1 + (1 : Int32))) h0 n0 Z0 ) hZ (hw _ (List.mem_of_getElem? (i := 84) rfl)) (hw _ (List.mem_of_getElem? (i := 45) rfl)) (by decide) (by decide)) (g := (mkF m 13 #[.val (.ref a5_0), .val (.int (p5_1 + (1 : Int32)))] [(.int (own_get6 c0 c1 c2 c3 c4 c5 (p5_1 + (1 : Int32))))])) rfl (by rw [hml]; rfl) (argsL := [(.int (own_get6 c0 c1 c2 c3 c4 c5 (p5_1 + (1 : Int32))))]) (rest := []) (lenOf pd_0 rfl) rfl (by show 2 * 0 + _ ≤ _; exact Nat.le_of_eq rfl) (hb hby d5_13) (fun _ _ => ⟨rfl, eh12, (by decide : 0 + 0 ≤ _), (by decide : 0 + 0 ≤ _)⟩)
        dsimp only [Pt.U, Pt.locs, Pt.cells, Pt.slots] at X13 l13 y13 z13 st13 hQ13
        rw [l13, y13, z13] at X13
        obtain ⟨rfl, N13q, eh13⟩ := hQ13
        have N13 := Fr.app N12 N13q
        have k14 : ∀ t, Steps p.tables e below (T13.setTop (mkF m 16 #[.val (.ref a5_0), .val (.int (p5_1 + (1 : Int32)))] [(.int (own_dg2 (own_get6 c0 c1 c2 c3 c4 c5 (p5_1 + (1 : Int32)))))])) t → Steps p.tables e below (s₁.setTop (entryFrame m #[(.ref a5_0), (.int p5_1)] 2)) t := by
          intro t k
          refine k10 t ?_
          show Steps p.tables e below (T9.setTop (mkF m 5 #[.val (.ref a5_0), .val (.int (p5_1 + (1 : Int32)))] [(.int (6 : Int32)), (.int (p5_1 + (1 : Int32)))])) _
          refine XS.icmpNo X9.here hx rfl (hb hby d5_5) rfl (tlt hc5_11).2.1 ?_
          show Steps p.tables e below (T9.setTop (mkF m 8 #[.val (.ref a5_0), .val (.int (p5_1 + (1 : Int32)))] [])) _
          refine XS.aloadN X9.here hx rfl (hb hby d5_8) rfl rfl ?_
          show Steps p.tables e below (T9.setTop (mkF m 9 #[.val (.ref a5_0), .val (.int (p5_1 + (1 : Int32)))] [(.ref a5_0)])) _
          refine XS.iloadN X9.here hx rfl (hb hby d5_9) rfl ?_
          show Steps p.tables e below (T9.setTop (mkF m 10 #[.val (.ref a5_0), .val (.int (p5_1 + (1 : Int32)))] [(.int (p5_1 + (1 : Int32))), (.ref a5_0)])) _
          refine st12.trans ?_
          show Steps p.tables e below (T12.setTop (mkF m 13 #[.val (.ref a5_0), .val (.int (p5_1 + (1 : Int32)))] [(.int (own_get6 c0 c1 c2 c3 c4 c5 (p5_1 + (1 : Int32))))])) _
          refine st13 _ ?_
          exact k
        by_cases hc16_15 : (own_dg2 (own_get6 c0 c1 c2 c3 c4 c5 (p5_1 + (1 : Int32)))) = (0 : Int32)
        · skip
          have k16 : ∀ t, Steps p.tables e below (T13.setTop (mkF m 26 #[.val (.ref a5_0), .val (.int (p5_1 + (1 : Int32)))] [(.int (p5_1 + (1 : Int32)))])) t → Steps p.tables e below (s₁.setTop (entryFrame m #[(.ref a5_0), (.int p5_1)] 2)) t := by
            intro t k
            refine k14 t ?_
            show Steps p.tables e below (T13.setTop (mkF m 16 #[.val (.ref a5_0), .val (.int (p5_1 + (1 : Int32)))] [(.int (own_dg2 (own_get6 c0 c1 c2 c3 c4 c5 (p5_1 + (1 : Int32)))))])) _
            refine XS.ifYes X13.here hx rfl (pc0 := 16) (pc' := 25) rfl (hb hby d5_16) rfl ((if0 _ _).trans (teq hc16_15).1) (by decide) (by decide) ?_
            show Steps p.tables e below (T13.setTop (mkF m 25 #[.val (.ref a5_0), .val (.int (p5_1 + (1 : Int32)))] [])) _
            refine XS.iloadN X13.here hx rfl (hb hby d5_25) rfl ?_
            exact k
          obtain ⟨fs, hr, hrun, hended, hW, hsame⟩ := X13.leave (v := some (.int (p5_1 + (1 : Int32)))) (fun h => by rw [Bd.returns] at h; cases h)
          refine ⟨_, _, k16 _ ?_, hrun, hended, _, _, rfl, ?_, ⟨_, rfl⟩, hW, hsame.mono (by decide) (by decide)⟩
          · exact retI X13 hx Bd.returns (hb hby d5_26) hr
          · show Q5 Z a5_0 p5_1 tt kk cs fm c0 c1 c2 c3 c4 c5 h0 n0 _ T13.heap _
            rw [eh13]
            exact ⟨congrArg (fun z => some (Value.int z)) (show ((p5_1 + (1 : Int32)) : Int32) = own_de p5_1 c0 c1 c2 c3 c4 c5 from by unfold own_de; rw [if_pos hc5_3, if_neg hc16_7, if_pos hc5_11, if_pos hc16_15]), N13, rfl⟩
        · skip
          obtain ⟨cq17, kq17, q17a, q17b, q17c⟩ := isOf hZ eh13 Es
          obtain ⟨_, _, ⟨T17, L17, k17, n17⟩, -, X17, ⟨Lc17, hQ17, l17, y17, z17⟩, st17⟩ := X13.virtualBack hx (y := (⟨"java/lang/String", "length", "()I"⟩ : MethodName)) (z := (⟨"java/lang/String", "length", "()I"⟩ : MethodName)) hown (mvT hZ (hw _ (List.mem_of_getElem? (i := 50) rfl))) (mvT hZ (hw _ (List.mem_of_getElem? (i := 51) rfl))) (notFace_of_selects (args := #[]) (mvT hZ (hw _ (List.mem_of_getElem? (i := 53) rfl)))) (mvT hZ (hw _ (List.mem_of_getElem? (i := 53) rfl))) (mvT hZ (hw _ (List.mem_of_getElem? (i := 52) rfl))) (by decide) (StrChars.Road.lenW (W := 1) hZ (fun d hd => hw d (own_sub_lenW d hd)) (kI := 4) (hw _ (List.mem_of_getElem? (i := 9) rfl)) Es Fv Fc Vb (StrChars.Road.codOf rfl (fun c hc => (hp c hc).2)) (own_u16 hp) Sc hcs (Nat.le_of_ble_eq_true rfl) (by decide) (by decide)) q17a q17c (g := (mkF m 2 #[.val (.ref a5_0), .val (.int ((p5_1 + (1 : Int32)) + (1 : Int32)))] [(.ref a5_0), (.int ((p5_1 + (1 : Int32)) + (1 : Int32)))])) rfl (by rw [hml]; rfl) (Steps.refl _) (argsL := []) (rest := [(.int ((p5_1 + (1 : Int32)) + (1 : Int32)))]) (lenOf pd_1 rfl) rfl (by show 2 * 0 + _ ≤ _; exact Nat.le_of_eq rfl) (hb hby d5_2) (fun _ _ => ⟨rfl, eh13, (by decide : 0 + 0 ≤ _), (by decide : 0 + 0 ≤ _)⟩)
          dsimp only [Pt.U, Pt.locs, Pt.cells, Pt.slots] at X17 l17 y17 z17 st17 hQ17
          rw [l17, y17, z17] at X17
          obtain ⟨rfl, rfl, eh17⟩ := hQ17
          have N17 := Fr.app N13 (Fr.nil n0)
          have k18 : ∀ t, Steps p.tables e below (T17.setTop (mkF m 5 #[.val (.ref a5_0), .val (.int ((p5_1 + (1 : Int32)) + (1 : Int32)))] [(.int (6 : Int32)), (.int ((p5_1 + (1 : Int32)) + (1 : Int32)))])) t → Steps p.tables e below (s₁.setTop (entryFrame m #[(.ref a5_0), (.int p5_1)] 2)) t := by
            intro t k
            refine k14 t ?_
            show Steps p.tables e below (T13.setTop (mkF m 16 #[.val (.ref a5_0), .val (.int (p5_1 + (1 : Int32)))] [(.int (own_dg2 (own_get6 c0 c1 c2 c3 c4 c5 (p5_1 + (1 : Int32)))))])) _
            refine XS.ifNo X13.here hx rfl (hb hby d5_16) rfl ((if0 _ _).trans (feq hc16_15).1) ?_
            show Steps p.tables e below (T13.setTop (mkF m 19 #[.val (.ref a5_0), .val (.int (p5_1 + (1 : Int32)))] [])) _
            refine XS.iinc X13.here hx rfl (hb hby d5_19) rfl (l' := #[.val (.ref a5_0), .val (.int ((p5_1 + (1 : Int32)) + (1 : Int32)))]) rfl ?_
            show Steps p.tables e below (T13.setTop (mkF m 22 #[.val (.ref a5_0), .val (.int ((p5_1 + (1 : Int32)) + (1 : Int32)))] [])) _
            refine XS.goto X13.here hx rfl (pc0 := 22) (pc' := 0) rfl (hb hby d5_22) (by decide) (by decide) ?_
            show Steps p.tables e below (T13.setTop (mkF m 0 #[.val (.ref a5_0), .val (.int ((p5_1 + (1 : Int32)) + (1 : Int32)))] [])) _
            refine XS.iloadN X13.here hx rfl (hb hby d5_0) rfl ?_
            show Steps p.tables e below (T13.setTop (mkF m 1 #[.val (.ref a5_0), .val (.int ((p5_1 + (1 : Int32)) + (1 : Int32)))] [(.int ((p5_1 + (1 : Int32)) + (1 : Int32)))])) _
            refine XS.aloadN X13.here hx rfl (hb hby d5_1) rfl rfl ?_
            show Steps p.tables e below (T13.setTop (mkF m 2 #[.val (.ref a5_0), .val (.int ((p5_1 + (1 : Int32)) + (1 : Int32)))] [(.ref a5_0), (.int ((p5_1 + (1 : Int32)) + (1 : Int32)))])) _
            refine st17.trans ?_
            exact k
          by_cases hc5_19 : ((p5_1 + (1 : Int32)) + (1 : Int32)) < (6 : Int32)
          · skip
            obtain ⟨cq20, kq20, q20a, q20b, q20c⟩ := isOf hZ eh17 Es
            obtain ⟨_, _, ⟨T20, L20, k20, n20⟩, -, X20, ⟨Lc20, hQ20, l20, y20, z20⟩, st20⟩ := X17.virtualBack hx (y := (⟨"java/lang/String", "charAt", "(I)C"⟩ : MethodName)) (z := (⟨"java/lang/String", "charAt", "(I)C"⟩ : MethodName)) hown (mvT hZ (hw _ (List.mem_of_getElem? (i := 60) rfl))) (mvT hZ (hw _ (List.mem_of_getElem? (i := 61) rfl))) (notFace_of_selects (args := #[]) (mvT hZ (hw _ (List.mem_of_getElem? (i := 63) rfl)))) (mvT hZ (hw _ (List.mem_of_getElem? (i := 63) rfl))) (mvT hZ (hw _ (List.mem_of_getElem? (i := 62) rfl))) (by decide) (StrChars.Road.chN (W := 0) hZ (fun d hd => hw d (own_sub_chN d hd)) (kI := 4) (hw _ (List.mem_of_getElem? (i := 9) rfl)) Es Fv Fc Vb (StrChars.Road.codOf rfl (fun c hc => (hp c hc).2)) (own_u16 hp) Sc hcs Sf hfm (Nat.le_of_ble_eq_true rfl) (i := (((p5_1 + (1 : Int32)) + (1 : Int32))).toNatClampNeg) (own_ilt (own_nn _ (own_nn _ hq0 hc5_3).1 hc5_11).1 hc5_19) (j := ((p5_1 + (1 : Int32)) + (1 : Int32))) (own_ofn _ (own_nn _ (own_nn _ hq0 hc5_3).1 hc5_11).1) (by decide) (by decide)) q20a q20c (g := (mkF m 10 #[.val (.ref a5_0), .val (.int ((p5_1 + (1 : Int32)) + (1 : Int32)))] [(.int ((p5_1 + (1 : Int32)) + (1 : Int32))), (.ref a5_0)])) rfl (by rw [hml]; rfl) (Steps.refl _) (argsL := [(.int ((p5_1 + (1 : Int32)) + (1 : Int32)))]) (rest := []) (lenOf pd_2 rfl) rfl (by show 2 * 0 + _ ≤ _; exact Nat.le_of_eq rfl) (hb hby d5_10) (fun _ _ => ⟨rfl, eh17, (by decide : 0 + 0 ≤ _), (by decide : 0 + 0 ≤ _)⟩)
            dsimp only [Pt.U, Pt.locs, Pt.cells, Pt.slots] at X20 l20 y20 z20 st20 hQ20
            rw [l20, y20, z20] at X20
            rw [own_getD6 _ _ _ _ _ _ _ (own_nn _ (own_nn _ hq0 hc5_3).1 hc5_11).1 hc5_19] at hQ20
            obtain ⟨rfl, rfl, eh20⟩ := hQ20
            have N20 := Fr.app N17 (Fr.nil n0)
            obtain ⟨_, _, ⟨T21, L21, k21, n21⟩, -, X21, ⟨Lc21, hQ21, l21, y21, z21⟩, st21⟩ := Jvm.LawKit.callS X20 hx (y := (⟨"com/example/oyster/oyster/engine/Literals", "isDigit", "(C)Z"⟩ : MethodName)) hown (mvT hZ (hw _ (List.mem_of_getElem? (i := 82) rfl))) (mvT hZ (hw _ (List.mem_of_getElem? (i := 83) rfl))) (mvT hZ (hw _ (List.mem_of_getElem? (i := 45) rfl))) (mvT hZ (hw _ (List.mem_of_getElem? (i := 84) rfl))) (by decide) (backOf (W := 0) (rm3 l Z a0 hw [] (own_get6 c0 c1 c2 c3 c4 c5 ((p5_1 + (1 : Int32)) + (1 : Int32))) h0 n0 Z0 ) hZ (hw _ (List.mem_of_getElem? (i := 84) rfl)) (hw _ (List.mem_of_getElem? (i := 45) rfl)) (by decide) (by decide)) (g := (mkF m 13 #[.val (.ref a5_0), .val (.int ((p5_1 + (1 : Int32)) + (1 : Int32)))] [(.int (own_get6 c0 c1 c2 c3 c4 c5 ((p5_1 + (1 : Int32)) + (1 : Int32))))])) rfl (by rw [hml]; rfl) (argsL := [(.int (own_get6 c0 c1 c2 c3 c4 c5 ((p5_1 + (1 : Int32)) + (1 : Int32))))]) (rest := []) (lenOf pd_0 rfl) rfl (by show 2 * 0 + _ ≤ _; exact Nat.le_of_eq rfl) (hb hby d5_13) (fun _ _ => ⟨rfl, eh20, (by decide : 0 + 0 ≤ _), (by decide : 0 + 0 ≤ _)⟩)
            dsimp only [Pt.U, Pt.locs, Pt.cells, Pt.slots] at X21 l21 y21 z21 st21 hQ21
            rw [l21, y21, z21] at X21
            obtain ⟨rfl, N21q, eh21⟩ := hQ21
            have N21 := Fr.app N20 N21q
            have k22 : ∀ t, Steps p.tables e below (T21.setTop (mkF m 16 #[.val (.ref a5_0), .val (.int ((p5_1 + (1 : Int32)) + (1 : Int32)))] [(.int (own_dg2 (own_get6 c0 c1 c2 c3 c4 c5 ((p5_1 + (1 : Int32)) + (1 : Int32)))))])) t → Steps p.tables e below (s₁.setTop (entryFrame m #[(.ref a5_0), (.int p5_1)] 2)) t := by
              intro t k
              refine k18 t ?_
              show Steps p.tables e below (T17.setTop (mkF m 5 #[.val (.ref a5_0), .val (.int ((p5_1 + (1 : Int32)) + (1 : Int32)))] [(.int (6 : Int32)), (.int ((p5_1 + (1 : Int32)) + (1 : Int32)))])) _
              refine XS.icmpNo X17.here hx rfl (hb hby d5_5) rfl (tlt hc5_19).2.1 ?_
              show Steps p.tables e below (T17.setTop (mkF m 8 #[.val (.ref a5_0), .val (.int ((p5_1 + (1 : Int32)) + (1 : Int32)))] [])) _
              refine XS.aloadN X17.here hx rfl (hb hby d5_8) rfl rfl ?_
              show Steps p.tables e below (T17.setTop (mkF m 9 #[.val (.ref a5_0), .val (.int ((p5_1 + (1 : Int32)) + (1 : Int32)))] [(.ref a5_0)])) _
              refine XS.iloadN X17.here hx rfl (hb hby d5_9) rfl ?_
              show Steps p.tables e below (T17.setTop (mkF m 10 #[.val (.ref a5_0), .val (.int ((p5_1 + (1 : Int32)) + (1 : Int32)))] [(.int ((p5_1 + (1 : Int32)) + (1 : Int32))), (.ref a5_0)])) _
              refine st20.trans ?_
              show Steps p.tables e below (T20.setTop (mkF m 13 #[.val (.ref a5_0), .val (.int ((p5_1 + (1 : Int32)) + (1 : Int32)))] [(.int (own_get6 c0 c1 c2 c3 c4 c5 ((p5_1 + (1 : Int32)) + (1 : Int32))))])) _
              refine st21 _ ?_
              exact k
            by_cases hc16_23 : (own_dg2 (own_get6 c0 c1 c2 c3 c4 c5 ((p5_1 + (1 : Int32)) + (1 : Int32)))) = (0 : Int32)
            · skip
              have k24 : ∀ t, Steps p.tables e below (T21.setTop (mkF m 26 #[.val (.ref a5_0), .val (.int ((p5_1 + (1 : Int32)) + (1 : Int32)))] [(.int ((p5_1 + (1 : Int32)) + (1 : Int32)))])) t → Steps p.tables e below (s₁.setTop (entryFrame m #[(.ref a5_0), (.int p5_1)] 2)) t := by
                intro t k
                refine k22 t ?_
                show Steps p.tables e below (T21.setTop (mkF m 16 #[.val (.ref a5_0), .val (.int ((p5_1 + (1 : Int32)) + (1 : Int32)))] [(.int (own_dg2 (own_get6 c0 c1 c2 c3 c4 c5 ((p5_1 + (1 : Int32)) + (1 : Int32)))))])) _
                refine XS.ifYes X21.here hx rfl (pc0 := 16) (pc' := 25) rfl (hb hby d5_16) rfl ((if0 _ _).trans (teq hc16_23).1) (by decide) (by decide) ?_
                show Steps p.tables e below (T21.setTop (mkF m 25 #[.val (.ref a5_0), .val (.int ((p5_1 + (1 : Int32)) + (1 : Int32)))] [])) _
                refine XS.iloadN X21.here hx rfl (hb hby d5_25) rfl ?_
                exact k
              obtain ⟨fs, hr, hrun, hended, hW, hsame⟩ := X21.leave (v := some (.int ((p5_1 + (1 : Int32)) + (1 : Int32)))) (fun h => by rw [Bd.returns] at h; cases h)
              refine ⟨_, _, k24 _ ?_, hrun, hended, _, _, rfl, ?_, ⟨_, rfl⟩, hW, hsame.mono (by decide) (by decide)⟩
              · exact retI X21 hx Bd.returns (hb hby d5_26) hr
              · show Q5 Z a5_0 p5_1 tt kk cs fm c0 c1 c2 c3 c4 c5 h0 n0 _ T21.heap _
                rw [eh21]
                exact ⟨congrArg (fun z => some (Value.int z)) (show (((p5_1 + (1 : Int32)) + (1 : Int32)) : Int32) = own_de p5_1 c0 c1 c2 c3 c4 c5 from by unfold own_de; rw [if_pos hc5_3, if_neg hc16_7, if_pos hc5_11, if_neg hc16_15, if_pos hc5_19, if_pos hc16_23]), N21, rfl⟩
            · skip
              obtain ⟨cq25, kq25, q25a, q25b, q25c⟩ := isOf hZ eh21 Es
              obtain ⟨_, _, ⟨T25, L25, k25, n25⟩, -, X25, ⟨Lc25, hQ25, l25, y25, z25⟩, st25⟩ := X21.virtualBack hx (y := (⟨"java/lang/String", "length", "()I"⟩ : MethodName)) (z := (⟨"java/lang/String", "length", "()I"⟩ : MethodName)) hown (mvT hZ (hw _ (List.mem_of_getElem? (i := 50) rfl))) (mvT hZ (hw _ (List.mem_of_getElem? (i := 51) rfl))) (notFace_of_selects (args := #[]) (mvT hZ (hw _ (List.mem_of_getElem? (i := 53) rfl)))) (mvT hZ (hw _ (List.mem_of_getElem? (i := 53) rfl))) (mvT hZ (hw _ (List.mem_of_getElem? (i := 52) rfl))) (by decide) (StrChars.Road.lenW (W := 1) hZ (fun d hd => hw d (own_sub_lenW d hd)) (kI := 4) (hw _ (List.mem_of_getElem? (i := 9) rfl)) Es Fv Fc Vb (StrChars.Road.codOf rfl (fun c hc => (hp c hc).2)) (own_u16 hp) Sc hcs (Nat.le_of_ble_eq_true rfl) (by decide) (by decide)) q25a q25c (g := (mkF m 2 #[.val (.ref a5_0), .val (.int (((p5_1 + (1 : Int32)) + (1 : Int32)) + (1 : Int32)))] [(.ref a5_0), (.int (((p5_1 + (1 : Int32)) + (1 : Int32)) + (1 : Int32)))])) rfl (by rw [hml]; rfl) (Steps.refl _) (argsL := []) (rest := [(.int (((p5_1 + (1 : Int32)) + (1 : Int32)) + (1 : Int32)))]) (lenOf pd_1 rfl) rfl (by show 2 * 0 + _ ≤ _; exact Nat.le_of_eq rfl) (hb hby d5_2) (fun _ _ => ⟨rfl, eh21, (by decide : 0 + 0 ≤ _), (by decide : 0 + 0 ≤ _)⟩)
              dsimp only [Pt.U, Pt.locs, Pt.cells, Pt.slots] at X25 l25 y25 z25 st25 hQ25
              rw [l25, y25, z25] at X25
              obtain ⟨rfl, rfl, eh25⟩ := hQ25
              have N25 := Fr.app N21 (Fr.nil n0)
              have k26 : ∀ t, Steps p.tables e below (T25.setTop (mkF m 5 #[.val (.ref a5_0), .val (.int (((p5_1 + (1 : Int32)) + (1 : Int32)) + (1 : Int32)))] [(.int (6 : Int32)), (.int (((p5_1 + (1 : Int32)) + (1 : Int32)) + (1 : Int32)))])) t → Steps p.tables e below (s₁.setTop (entryFrame m #[(.ref a5_0), (.int p5_1)] 2)) t := by
                intro t k
                refine k22 t ?_
                show Steps p.tables e below (T21.setTop (mkF m 16 #[.val (.ref a5_0), .val (.int ((p5_1 + (1 : Int32)) + (1 : Int32)))] [(.int (own_dg2 (own_get6 c0 c1 c2 c3 c4 c5 ((p5_1 + (1 : Int32)) + (1 : Int32)))))])) _
                refine XS.ifNo X21.here hx rfl (hb hby d5_16) rfl ((if0 _ _).trans (feq hc16_23).1) ?_
                show Steps p.tables e below (T21.setTop (mkF m 19 #[.val (.ref a5_0), .val (.int ((p5_1 + (1 : Int32)) + (1 : Int32)))] [])) _
                refine XS.iinc X21.here hx rfl (hb hby d5_19) rfl (l' := #[.val (.ref a5_0), .val (.int (((p5_1 + (1 : Int32)) + (1 : Int32)) + (1 : Int32)))]) rfl ?_
                show Steps p.tables e below (T21.setTop (mkF m 22 #[.val (.ref a5_0), .val (.int (((p5_1 + (1 : Int32)) + (1 : Int32)) + (1 : Int32)))] [])) _
                refine XS.goto X21.here hx rfl (pc0 := 22) (pc' := 0) rfl (hb hby d5_22) (by decide) (by decide) ?_
                show Steps p.tables e below (T21.setTop (mkF m 0 #[.val (.ref a5_0), .val (.int (((p5_1 + (1 : Int32)) + (1 : Int32)) + (1 : Int32)))] [])) _
                refine XS.iloadN X21.here hx rfl (hb hby d5_0) rfl ?_
                show Steps p.tables e below (T21.setTop (mkF m 1 #[.val (.ref a5_0), .val (.int (((p5_1 + (1 : Int32)) + (1 : Int32)) + (1 : Int32)))] [(.int (((p5_1 + (1 : Int32)) + (1 : Int32)) + (1 : Int32)))])) _
                refine XS.aloadN X21.here hx rfl (hb hby d5_1) rfl rfl ?_
                show Steps p.tables e below (T21.setTop (mkF m 2 #[.val (.ref a5_0), .val (.int (((p5_1 + (1 : Int32)) + (1 : Int32)) + (1 : Int32)))] [(.ref a5_0), (.int (((p5_1 + (1 : Int32)) + (1 : Int32)) + (1 : Int32)))])) _
                refine st25.trans ?_
                exact k
              by_cases hc5_27 : (((p5_1 + (1 : Int32)) + (1 : Int32)) + (1 : Int32)) < (6 : Int32)
              · skip
                obtain ⟨cq28, kq28, q28a, q28b, q28c⟩ := isOf hZ eh25 Es
                obtain ⟨_, _, ⟨T28, L28, k28, n28⟩, -, X28, ⟨Lc28, hQ28, l28, y28, z28⟩, st28⟩ := X25.virtualBack hx (y := (⟨"java/lang/String", "charAt", "(I)C"⟩ : MethodName)) (z := (⟨"java/lang/String", "charAt", "(I)C"⟩ : MethodName)) hown (mvT hZ (hw _ (List.mem_of_getElem? (i := 60) rfl))) (mvT hZ (hw _ (List.mem_of_getElem? (i := 61) rfl))) (notFace_of_selects (args := #[]) (mvT hZ (hw _ (List.mem_of_getElem? (i := 63) rfl)))) (mvT hZ (hw _ (List.mem_of_getElem? (i := 63) rfl))) (mvT hZ (hw _ (List.mem_of_getElem? (i := 62) rfl))) (by decide) (StrChars.Road.chN (W := 0) hZ (fun d hd => hw d (own_sub_chN d hd)) (kI := 4) (hw _ (List.mem_of_getElem? (i := 9) rfl)) Es Fv Fc Vb (StrChars.Road.codOf rfl (fun c hc => (hp c hc).2)) (own_u16 hp) Sc hcs Sf hfm (Nat.le_of_ble_eq_true rfl) (i := ((((p5_1 + (1 : Int32)) + (1 : Int32)) + (1 : Int32))).toNatClampNeg) (own_ilt (own_nn _ (own_nn _ (own_nn _ hq0 hc5_3).1 hc5_11).1 hc5_19).1 hc5_27) (j := (((p5_1 + (1 : Int32)) + (1 : Int32)) + (1 : Int32))) (own_ofn _ (own_nn _ (own_nn _ (own_nn _ hq0 hc5_3).1 hc5_11).1 hc5_19).1) (by decide) (by decide)) q28a q28c (g := (mkF m 10 #[.val (.ref a5_0), .val (.int (((p5_1 + (1 : Int32)) + (1 : Int32)) + (1 : Int32)))] [(.int (((p5_1 + (1 : Int32)) + (1 : Int32)) + (1 : Int32))), (.ref a5_0)])) rfl (by rw [hml]; rfl) (Steps.refl _) (argsL := [(.int (((p5_1 + (1 : Int32)) + (1 : Int32)) + (1 : Int32)))]) (rest := []) (lenOf pd_2 rfl) rfl (by show 2 * 0 + _ ≤ _; exact Nat.le_of_eq rfl) (hb hby d5_10) (fun _ _ => ⟨rfl, eh25, (by decide : 0 + 0 ≤ _), (by decide : 0 + 0 ≤ _)⟩)
                dsimp only [Pt.U, Pt.locs, Pt.cells, Pt.slots] at X28 l28 y28 z28 st28 hQ28
                rw [l28, y28, z28] at X28
                rw [own_getD6 _ _ _ _ _ _ _ (own_nn _ (own_nn _ (own_nn _ hq0 hc5_3).1 hc5_11).1 hc5_19).1 hc5_27] at hQ28
                obtain ⟨rfl, rfl, eh28⟩ := hQ28
                have N28 := Fr.app N25 (Fr.nil n0)
                obtain ⟨_, _, ⟨T29, L29, k29, n29⟩, -, X29, ⟨Lc29, hQ29, l29, y29, z29⟩, st29⟩ := Jvm.LawKit.callS X28 hx (y := (⟨"com/example/oyster/oyster/engine/Literals", "isDigit", "(C)Z"⟩ : MethodName)) hown (mvT hZ (hw _ (List.mem_of_getElem? (i := 82) rfl))) (mvT hZ (hw _ (List.mem_of_getElem? (i := 83) rfl))) (mvT hZ (hw _ (List.mem_of_getElem? (i := 45) rfl))) (mvT hZ (hw _ (List.mem_of_getElem? (i := 84) rfl))) (by decide) (backOf (W := 0) (rm3 l Z a0 hw [] (own_get6 c0 c1 c2 c3 c4 c5 (((p5_1 + (1 : Int32)) + (1 : Int32)) + (1 : Int32))) h0 n0 Z0 ) hZ (hw _ (List.mem_of_getElem? (i := 84) rfl)) (hw _ (List.mem_of_getElem? (i := 45) rfl)) (by decide) (by decide)) (g := (mkF m 13 #[.val (.ref a5_0), .val (.int (((p5_1 + (1 : Int32)) + (1 : Int32)) + (1 : Int32)))] [(.int (own_get6 c0 c1 c2 c3 c4 c5 (((p5_1 + (1 : Int32)) + (1 : Int32)) + (1 : Int32))))])) rfl (by rw [hml]; rfl) (argsL := [(.int (own_get6 c0 c1 c2 c3 c4 c5 (((p5_1 + (1 : Int32)) + (1 : Int32)) + (1 : Int32))))]) (rest := []) (lenOf pd_0 rfl) rfl (by show 2 * 0 + _ ≤ _; exact Nat.le_of_eq rfl) (hb hby d5_13) (fun _ _ => ⟨rfl, eh28, (by decide : 0 + 0 ≤ _), (by decide : 0 + 0 ≤ _)⟩)
                dsimp only [Pt.U, Pt.locs, Pt.cells, Pt.slots] at X29 l29 y29 z29 st29 hQ29
                rw [l29, y29, z29] at X29
                obtain ⟨rfl, N29q, eh29⟩ := hQ29
                have N29 := Fr.app N28 N29q
                have k30 : ∀ t, Steps p.tables e below (T29.setTop (mkF m 16 #[.val (.ref a5_0), .val (.int (((p5_1 + (1 : Int32)) + (1 : Int32)) + (1 : Int32)))] [(.int (own_dg2 (own_get6 c0 c1 c2 c3 c4 c5 (((p5_1 + (1 : Int32)) + (1 : Int32)) + (1 : Int32)))))])) t → Steps p.tables e below (s₁.setTop (entryFrame m #[(.ref a5_0), (.int p5_1)] 2)) t := by
                  intro t k
                  refine k26 t ?_
                  show Steps p.tables e below (T25.setTop (mkF m 5 #[.val (.ref a5_0), .val (.int (((p5_1 + (1 : Int32)) + (1 : Int32)) + (1 : Int32)))] [(.int (6 : Int32)), (.int (((p5_1 + (1 : Int32)) + (1 : Int32)) + (1 : Int32)))])) _
                  refine XS.icmpNo X25.here hx rfl (hb hby d5_5) rfl (tlt hc5_27).2.1 ?_
                  show Steps p.tables e below (T25.setTop (mkF m 8 #[.val (.ref a5_0), .val (.int (((p5_1 + (1 : Int32)) + (1 : Int32)) + (1 : Int32)))] [])) _
                  refine XS.aloadN X25.here hx rfl (hb hby d5_8) rfl rfl ?_
                  show Steps p.tables e below (T25.setTop (mkF m 9 #[.val (.ref a5_0), .val (.int (((p5_1 + (1 : Int32)) + (1 : Int32)) + (1 : Int32)))] [(.ref a5_0)])) _
                  refine XS.iloadN X25.here hx rfl (hb hby d5_9) rfl ?_
                  show Steps p.tables e below (T25.setTop (mkF m 10 #[.val (.ref a5_0), .val (.int (((p5_1 + (1 : Int32)) + (1 : Int32)) + (1 : Int32)))] [(.int (((p5_1 + (1 : Int32)) + (1 : Int32)) + (1 : Int32))), (.ref a5_0)])) _
                  refine st28.trans ?_
                  show Steps p.tables e below (T28.setTop (mkF m 13 #[.val (.ref a5_0), .val (.int (((p5_1 + (1 : Int32)) + (1 : Int32)) + (1 : Int32)))] [(.int (own_get6 c0 c1 c2 c3 c4 c5 (((p5_1 + (1 : Int32)) + (1 : Int32)) + (1 : Int32))))])) _
                  refine st29 _ ?_
                  exact k
                by_cases hc16_31 : (own_dg2 (own_get6 c0 c1 c2 c3 c4 c5 (((p5_1 + (1 : Int32)) + (1 : Int32)) + (1 : Int32)))) = (0 : Int32)
                · skip
                  have k32 : ∀ t, Steps p.tables e below (T29.setTop (mkF m 26 #[.val (.ref a5_0), .val (.int (((p5_1 + (1 : Int32)) + (1 : Int32)) + (1 : Int32)))] [(.int (((p5_1 + (1 : Int32)) + (1 : Int32)) + (1 : Int32)))])) t → Steps p.tables e below (s₁.setTop (entryFrame m #[(.ref a5_0), (.int p5_1)] 2)) t := by
                    intro t k
                    refine k30 t ?_
                    show Steps p.tables e below (T29.setTop (mkF m 16 #[.val (.ref a5_0), .val (.int (((p5_1 + (1 : Int32)) + (1 : Int32)) + (1 : Int32)))] [(.int (own_dg2 (own_get6 c0 c1 c2 c3 c4 c5 (((p5_1 + (1 : Int32)) + (1 : Int32)) + (1 : Int32)))))])) _
                    refine XS.ifYes X29.here hx rfl (pc0 := 16) (pc' := 25) rfl (hb hby d5_16) rfl ((if0 _ _).trans (teq hc16_31).1) (by decide) (by decide) ?_
                    show Steps p.tables e below (T29.setTop (mkF m 25 #[.val (.ref a5_0), .val (.int (((p5_1 + (1 : Int32)) + (1 : Int32)) + (1 : Int32)))] [])) _
                    refine XS.iloadN X29.here hx rfl (hb hby d5_25) rfl ?_
                    exact k
                  obtain ⟨fs, hr, hrun, hended, hW, hsame⟩ := X29.leave (v := some (.int (((p5_1 + (1 : Int32)) + (1 : Int32)) + (1 : Int32)))) (fun h => by rw [Bd.returns] at h; cases h)
                  refine ⟨_, _, k32 _ ?_, hrun, hended, _, _, rfl, ?_, ⟨_, rfl⟩, hW, hsame.mono (by decide) (by decide)⟩
                  · exact retI X29 hx Bd.returns (hb hby d5_26) hr
                  · show Q5 Z a5_0 p5_1 tt kk cs fm c0 c1 c2 c3 c4 c5 h0 n0 _ T29.heap _
                    rw [eh29]
                    exact ⟨congrArg (fun z => some (Value.int z)) (show ((((p5_1 + (1 : Int32)) + (1 : Int32)) + (1 : Int32)) : Int32) = own_de p5_1 c0 c1 c2 c3 c4 c5 from by unfold own_de; rw [if_pos hc5_3, if_neg hc16_7, if_pos hc5_11, if_neg hc16_15, if_pos hc5_19, if_neg hc16_23, if_pos hc5_27, if_pos hc16_31]), N29, rfl⟩
                · skip
                  obtain ⟨cq33, kq33, q33a, q33b, q33c⟩ := isOf hZ eh29 Es
                  obtain ⟨_, _, ⟨T33, L33, k33, n33⟩, -, X33, ⟨Lc33, hQ33, l33, y33, z33⟩, st33⟩ := X29.virtualBack hx (y := (⟨"java/lang/String", "length", "()I"⟩ : MethodName)) (z := (⟨"java/lang/String", "length", "()I"⟩ : MethodName)) hown (mvT hZ (hw _ (List.mem_of_getElem? (i := 50) rfl))) (mvT hZ (hw _ (List.mem_of_getElem? (i := 51) rfl))) (notFace_of_selects (args := #[]) (mvT hZ (hw _ (List.mem_of_getElem? (i := 53) rfl)))) (mvT hZ (hw _ (List.mem_of_getElem? (i := 53) rfl))) (mvT hZ (hw _ (List.mem_of_getElem? (i := 52) rfl))) (by decide) (StrChars.Road.lenW (W := 1) hZ (fun d hd => hw d (own_sub_lenW d hd)) (kI := 4) (hw _ (List.mem_of_getElem? (i := 9) rfl)) Es Fv Fc Vb (StrChars.Road.codOf rfl (fun c hc => (hp c hc).2)) (own_u16 hp) Sc hcs (Nat.le_of_ble_eq_true rfl) (by decide) (by decide)) q33a q33c (g := (mkF m 2 #[.val (.ref a5_0), .val (.int ((((p5_1 + (1 : Int32)) + (1 : Int32)) + (1 : Int32)) + (1 : Int32)))] [(.ref a5_0), (.int ((((p5_1 + (1 : Int32)) + (1 : Int32)) + (1 : Int32)) + (1 : Int32)))])) rfl (by rw [hml]; rfl) (Steps.refl _) (argsL := []) (rest := [(.int ((((p5_1 + (1 : Int32)) + (1 : Int32)) + (1 : Int32)) + (1 : Int32)))]) (lenOf pd_1 rfl) rfl (by show 2 * 0 + _ ≤ _; exact Nat.le_of_eq rfl) (hb hby d5_2) (fun _ _ => ⟨rfl, eh29, (by decide : 0 + 0 ≤ _), (by decide : 0 + 0 ≤ _)⟩)
                  dsimp only [Pt.U, Pt.locs, Pt.cells, Pt.slots] at X33 l33 y33 z33 st33 hQ33
                  rw [l33, y33, z33] at X33
                  obtain ⟨rfl, rfl, eh33⟩ := hQ33
                  have N33 := Fr.app N29 (Fr.nil n0)
                  have k34 : ∀ t, Steps p.tables e below (T33.setTop (mkF m 5 #[.val (.ref a5_0), .val (.int ((((p5_1 + (1 : Int32)) + (1 : Int32)) + (1 : Int32)) + (1 : Int32)))] [(.int (6 : Int32)), (.int ((((p5_1 + (1 : Int32)) + (1 : Int32)) + (1 : Int32)) + (1 : Int32)))])) t → Steps p.tables e below (s₁.setTop (entryFrame m #[(.ref a5_0), (.int p5_1)] 2)) t := by
                    intro t k
                    refine k30 t ?_
                    show Steps p.tables e below (T29.setTop (mkF m 16 #[.val (.ref a5_0), .val (.int (((p5_1 + (1 : Int32)) + (1 : Int32)) + (1 : Int32)))] [(.int (own_dg2 (own_get6 c0 c1 c2 c3 c4 c5 (((p5_1 + (1 : Int32)) + (1 : Int32)) + (1 : Int32)))))])) _
                    refine XS.ifNo X29.here hx rfl (hb hby d5_16) rfl ((if0 _ _).trans (feq hc16_31).1) ?_
                    show Steps p.tables e below (T29.setTop (mkF m 19 #[.val (.ref a5_0), .val (.int (((p5_1 + (1 : Int32)) + (1 : Int32)) + (1 : Int32)))] [])) _
                    refine XS.iinc X29.here hx rfl (hb hby d5_19) rfl (l' := #[.val (.ref a5_0), .val (.int ((((p5_1 + (1 : Int32)) + (1 : Int32)) + (1 : Int32)) + (1 : Int32)))]) rfl ?_
                    show Steps p.tables e below (T29.setTop (mkF m 22 #[.val (.ref a5_0), .val (.int ((((p5_1 + (1 : Int32)) + (1 : Int32)) + (1 : Int32)) + (1 : Int32)))] [])) _
                    refine XS.goto X29.here hx rfl (pc0 := 22) (pc' := 0) rfl (hb hby d5_22) (by decide) (by decide) ?_
                    show Steps p.tables e below (T29.setTop (mkF m 0 #[.val (.ref a5_0), .val (.int ((((p5_1 + (1 : Int32)) + (1 : Int32)) + (1 : Int32)) + (1 : Int32)))] [])) _
                    refine XS.iloadN X29.here hx rfl (hb hby d5_0) rfl ?_
                    show Steps p.tables e below (T29.setTop (mkF m 1 #[.val (.ref a5_0), .val (.int ((((p5_1 + (1 : Int32)) + (1 : Int32)) + (1 : Int32)) + (1 : Int32)))] [(.int ((((p5_1 + (1 : Int32)) + (1 : Int32)) + (1 : Int32)) + (1 : Int32)))])) _
                    refine XS.aloadN X29.here hx rfl (hb hby d5_1) rfl rfl ?_
                    show Steps p.tables e below (T29.setTop (mkF m 2 #[.val (.ref a5_0), .val (.int ((((p5_1 + (1 : Int32)) + (1 : Int32)) + (1 : Int32)) + (1 : Int32)))] [(.ref a5_0), (.int ((((p5_1 + (1 : Int32)) + (1 : Int32)) + (1 : Int32)) + (1 : Int32)))])) _
                    refine st33.trans ?_
                    exact k
                  by_cases hc5_35 : ((((p5_1 + (1 : Int32)) + (1 : Int32)) + (1 : Int32)) + (1 : Int32)) < (6 : Int32)
                  · skip
                    obtain ⟨cq36, kq36, q36a, q36b, q36c⟩ := isOf hZ eh33 Es
                    obtain ⟨_, _, ⟨T36, L36, k36, n36⟩, -, X36, ⟨Lc36, hQ36, l36, y36, z36⟩, st36⟩ := X33.virtualBack hx (y := (⟨"java/lang/String", "charAt", "(I)C"⟩ : MethodName)) (z := (⟨"java/lang/String", "charAt", "(I)C"⟩ : MethodName)) hown (mvT hZ (hw _ (List.mem_of_getElem? (i := 60) rfl))) (mvT hZ (hw _ (List.mem_of_getElem? (i := 61) rfl))) (notFace_of_selects (args := #[]) (mvT hZ (hw _ (List.mem_of_getElem? (i := 63) rfl)))) (mvT hZ (hw _ (List.mem_of_getElem? (i := 63) rfl))) (mvT hZ (hw _ (List.mem_of_getElem? (i := 62) rfl))) (by decide) (StrChars.Road.chN (W := 0) hZ (fun d hd => hw d (own_sub_chN d hd)) (kI := 4) (hw _ (List.mem_of_getElem? (i := 9) rfl)) Es Fv Fc Vb (StrChars.Road.codOf rfl (fun c hc => (hp c hc).2)) (own_u16 hp) Sc hcs Sf hfm (Nat.le_of_ble_eq_true rfl) (i := (((((p5_1 + (1 : Int32)) + (1 : Int32)) + (1 : Int32)) + (1 : Int32))).toNatClampNeg) (own_ilt (own_nn _ (own_nn _ (own_nn _ (own_nn _ hq0 hc5_3).1 hc5_11).1 hc5_19).1 hc5_27).1 hc5_35) (j := ((((p5_1 + (1 : Int32)) + (1 : Int32)) + (1 : Int32)) + (1 : Int32))) (own_ofn _ (own_nn _ (own_nn _ (own_nn _ (own_nn _ hq0 hc5_3).1 hc5_11).1 hc5_19).1 hc5_27).1) (by decide) (by decide)) q36a q36c (g := (mkF m 10 #[.val (.ref a5_0), .val (.int ((((p5_1 + (1 : Int32)) + (1 : Int32)) + (1 : Int32)) + (1 : Int32)))] [(.int ((((p5_1 + (1 : Int32)) + (1 : Int32)) + (1 : Int32)) + (1 : Int32))), (.ref a5_0)])) rfl (by rw [hml]; rfl) (Steps.refl _) (argsL := [(.int ((((p5_1 + (1 : Int32)) + (1 : Int32)) + (1 : Int32)) + (1 : Int32)))]) (rest := []) (lenOf pd_2 rfl) rfl (by show 2 * 0 + _ ≤ _; exact Nat.le_of_eq rfl) (hb hby d5_10) (fun _ _ => ⟨rfl, eh33, (by decide : 0 + 0 ≤ _), (by decide : 0 + 0 ≤ _)⟩)
                    dsimp only [Pt.U, Pt.locs, Pt.cells, Pt.slots] at X36 l36 y36 z36 st36 hQ36
                    rw [l36, y36, z36] at X36
                    rw [own_getD6 _ _ _ _ _ _ _ (own_nn _ (own_nn _ (own_nn _ (own_nn _ hq0 hc5_3).1 hc5_11).1 hc5_19).1 hc5_27).1 hc5_35] at hQ36
                    obtain ⟨rfl, rfl, eh36⟩ := hQ36
                    have N36 := Fr.app N33 (Fr.nil n0)
                    obtain ⟨_, _, ⟨T37, L37, k37, n37⟩, -, X37, ⟨Lc37, hQ37, l37, y37, z37⟩, st37⟩ := Jvm.LawKit.callS X36 hx (y := (⟨"com/example/oyster/oyster/engine/Literals", "isDigit", "(C)Z"⟩ : MethodName)) hown (mvT hZ (hw _ (List.mem_of_getElem? (i := 82) rfl))) (mvT hZ (hw _ (List.mem_of_getElem? (i := 83) rfl))) (mvT hZ (hw _ (List.mem_of_getElem? (i := 45) rfl))) (mvT hZ (hw _ (List.mem_of_getElem? (i := 84) rfl))) (by decide) (backOf (W := 0) (rm3 l Z a0 hw [] (own_get6 c0 c1 c2 c3 c4 c5 ((((p5_1 + (1 : Int32)) + (1 : Int32)) + (1 : Int32)) + (1 : Int32))) h0 n0 Z0 ) hZ (hw _ (List.mem_of_getElem? (i := 84) rfl)) (hw _ (List.mem_of_getElem? (i := 45) rfl)) (by decide) (by decide)) (g := (mkF m 13 #[.val (.ref a5_0), .val (.int ((((p5_1 + (1 : Int32)) + (1 : Int32)) + (1 : Int32)) + (1 : Int32)))] [(.int (own_get6 c0 c1 c2 c3 c4 c5 ((((p5_1 + (1 : Int32)) + (1 : Int32)) + (1 : Int32)) + (1 : Int32))))])) rfl (by rw [hml]; rfl) (argsL := [(.int (own_get6 c0 c1 c2 c3 c4 c5 ((((p5_1 + (1 : Int32)) + (1 : Int32)) + (1 : Int32)) + (1 : Int32))))]) (rest := []) (lenOf pd_0 rfl) rfl (by show 2 * 0 + _ ≤ _; exact Nat.le_of_eq rfl) (hb hby d5_13) (fun _ _ => ⟨rfl, eh36, (by decide : 0 + 0 ≤ _), (by decide : 0 + 0 ≤ _)⟩)
                    dsimp only [Pt.U, Pt.locs, Pt.cells, Pt.slots] at X37 l37 y37 z37 st37 hQ37
                    rw [l37, y37, z37] at X37
                    obtain ⟨rfl, N37q, eh37⟩ := hQ37
                    have N37 := Fr.app N36 N37q
                    have k38 : ∀ t, Steps p.tables e below (T37.setTop (mkF m 16 #[.val (.ref a5_0), .val (.int ((((p5_1 + (1 : Int32)) + (1 : Int32)) + (1 : Int32)) + (1 : Int32)))] [(.int (own_dg2 (own_get6 c0 c1 c2 c3 c4 c5 ((((p5_1 + (1 : Int32)) + (1 : Int32)) + (1 : Int32)) + (1 : Int32)))))])) t → Steps p.tables e below (s₁.setTop (entryFrame m #[(.ref a5_0), (.int p5_1)] 2)) t := by
                      intro t k
                      refine k34 t ?_
                      show Steps p.tables e below (T33.setTop (mkF m 5 #[.val (.ref a5_0), .val (.int ((((p5_1 + (1 : Int32)) + (1 : Int32)) + (1 : Int32)) + (1 : Int32)))] [(.int (6 : Int32)), (.int ((((p5_1 + (1 : Int32)) + (1 : Int32)) + (1 : Int32)) + (1 : Int32)))])) _
                      refine XS.icmpNo X33.here hx rfl (hb hby d5_5) rfl (tlt hc5_35).2.1 ?_
                      show Steps p.tables e below (T33.setTop (mkF m 8 #[.val (.ref a5_0), .val (.int ((((p5_1 + (1 : Int32)) + (1 : Int32)) + (1 : Int32)) + (1 : Int32)))] [])) _
                      refine XS.aloadN X33.here hx rfl (hb hby d5_8) rfl rfl ?_
                      show Steps p.tables e below (T33.setTop (mkF m 9 #[.val (.ref a5_0), .val (.int ((((p5_1 + (1 : Int32)) + (1 : Int32)) + (1 : Int32)) + (1 : Int32)))] [(.ref a5_0)])) _
                      refine XS.iloadN X33.here hx rfl (hb hby d5_9) rfl ?_
                      show Steps p.tables e below (T33.setTop (mkF m 10 #[.val (.ref a5_0), .val (.int ((((p5_1 + (1 : Int32)) + (1 : Int32)) + (1 : Int32)) + (1 : Int32)))] [(.int ((((p5_1 + (1 : Int32)) + (1 : Int32)) + (1 : Int32)) + (1 : Int32))), (.ref a5_0)])) _
                      refine st36.trans ?_
                      show Steps p.tables e below (T36.setTop (mkF m 13 #[.val (.ref a5_0), .val (.int ((((p5_1 + (1 : Int32)) + (1 : Int32)) + (1 : Int32)) + (1 : Int32)))] [(.int (own_get6 c0 c1 c2 c3 c4 c5 ((((p5_1 + (1 : Int32)) + (1 : Int32)) + (1 : Int32)) + (1 : Int32))))])) _
                      refine st37 _ ?_
                      exact k
                    by_cases hc16_39 : (own_dg2 (own_get6 c0 c1 c2 c3 c4 c5 ((((p5_1 + (1 : Int32)) + (1 : Int32)) + (1 : Int32)) + (1 : Int32)))) = (0 : Int32)
                    · skip
                      have k40 : ∀ t, Steps p.tables e below (T37.setTop (mkF m 26 #[.val (.ref a5_0), .val (.int ((((p5_1 + (1 : Int32)) + (1 : Int32)) + (1 : Int32)) + (1 : Int32)))] [(.int ((((p5_1 + (1 : Int32)) + (1 : Int32)) + (1 : Int32)) + (1 : Int32)))])) t → Steps p.tables e below (s₁.setTop (entryFrame m #[(.ref a5_0), (.int p5_1)] 2)) t := by
                        intro t k
                        refine k38 t ?_
                        show Steps p.tables e below (T37.setTop (mkF m 16 #[.val (.ref a5_0), .val (.int ((((p5_1 + (1 : Int32)) + (1 : Int32)) + (1 : Int32)) + (1 : Int32)))] [(.int (own_dg2 (own_get6 c0 c1 c2 c3 c4 c5 ((((p5_1 + (1 : Int32)) + (1 : Int32)) + (1 : Int32)) + (1 : Int32)))))])) _
                        refine XS.ifYes X37.here hx rfl (pc0 := 16) (pc' := 25) rfl (hb hby d5_16) rfl ((if0 _ _).trans (teq hc16_39).1) (by decide) (by decide) ?_
                        show Steps p.tables e below (T37.setTop (mkF m 25 #[.val (.ref a5_0), .val (.int ((((p5_1 + (1 : Int32)) + (1 : Int32)) + (1 : Int32)) + (1 : Int32)))] [])) _
                        refine XS.iloadN X37.here hx rfl (hb hby d5_25) rfl ?_
                        exact k
                      obtain ⟨fs, hr, hrun, hended, hW, hsame⟩ := X37.leave (v := some (.int ((((p5_1 + (1 : Int32)) + (1 : Int32)) + (1 : Int32)) + (1 : Int32)))) (fun h => by rw [Bd.returns] at h; cases h)
                      refine ⟨_, _, k40 _ ?_, hrun, hended, _, _, rfl, ?_, ⟨_, rfl⟩, hW, hsame.mono (by decide) (by decide)⟩
                      · exact retI X37 hx Bd.returns (hb hby d5_26) hr
                      · show Q5 Z a5_0 p5_1 tt kk cs fm c0 c1 c2 c3 c4 c5 h0 n0 _ T37.heap _
                        rw [eh37]
                        exact ⟨congrArg (fun z => some (Value.int z)) (show (((((p5_1 + (1 : Int32)) + (1 : Int32)) + (1 : Int32)) + (1 : Int32)) : Int32) = own_de p5_1 c0 c1 c2 c3 c4 c5 from by unfold own_de; rw [if_pos hc5_3, if_neg hc16_7, if_pos hc5_11, if_neg hc16_15, if_pos hc5_19, if_neg hc16_23, if_pos hc5_27, if_neg hc16_31, if_pos hc5_35, if_pos hc16_39]), N37, rfl⟩
                    · skip
                      obtain ⟨cq41, kq41, q41a, q41b, q41c⟩ := isOf hZ eh37 Es
                      obtain ⟨_, _, ⟨T41, L41, k41, n41⟩, -, X41, ⟨Lc41, hQ41, l41, y41, z41⟩, st41⟩ := X37.virtualBack hx (y := (⟨"java/lang/String", "length", "()I"⟩ : MethodName)) (z := (⟨"java/lang/String", "length", "()I"⟩ : MethodName)) hown (mvT hZ (hw _ (List.mem_of_getElem? (i := 50) rfl))) (mvT hZ (hw _ (List.mem_of_getElem? (i := 51) rfl))) (notFace_of_selects (args := #[]) (mvT hZ (hw _ (List.mem_of_getElem? (i := 53) rfl)))) (mvT hZ (hw _ (List.mem_of_getElem? (i := 53) rfl))) (mvT hZ (hw _ (List.mem_of_getElem? (i := 52) rfl))) (by decide) (StrChars.Road.lenW (W := 1) hZ (fun d hd => hw d (own_sub_lenW d hd)) (kI := 4) (hw _ (List.mem_of_getElem? (i := 9) rfl)) Es Fv Fc Vb (StrChars.Road.codOf rfl (fun c hc => (hp c hc).2)) (own_u16 hp) Sc hcs (Nat.le_of_ble_eq_true rfl) (by decide) (by decide)) q41a q41c (g := (mkF m 2 #[.val (.ref a5_0), .val (.int (((((p5_1 + (1 : Int32)) + (1 : Int32)) + (1 : Int32)) + (1 : Int32)) + (1 : Int32)))] [(.ref a5_0), (.int (((((p5_1 + (1 : Int32)) + (1 : Int32)) + (1 : Int32)) + (1 : Int32)) + (1 : Int32)))])) rfl (by rw [hml]; rfl) (Steps.refl _) (argsL := []) (rest := [(.int (((((p5_1 + (1 : Int32)) + (1 : Int32)) + (1 : Int32)) + (1 : Int32)) + (1 : Int32)))]) (lenOf pd_1 rfl) rfl (by show 2 * 0 + _ ≤ _; exact Nat.le_of_eq rfl) (hb hby d5_2) (fun _ _ => ⟨rfl, eh37, (by decide : 0 + 0 ≤ _), (by decide : 0 + 0 ≤ _)⟩)
                      dsimp only [Pt.U, Pt.locs, Pt.cells, Pt.slots] at X41 l41 y41 z41 st41 hQ41
                      rw [l41, y41, z41] at X41
                      obtain ⟨rfl, rfl, eh41⟩ := hQ41
                      have N41 := Fr.app N37 (Fr.nil n0)
                      have k42 : ∀ t, Steps p.tables e below (T41.setTop (mkF m 5 #[.val (.ref a5_0), .val (.int (((((p5_1 + (1 : Int32)) + (1 : Int32)) + (1 : Int32)) + (1 : Int32)) + (1 : Int32)))] [(.int (6 : Int32)), (.int (((((p5_1 + (1 : Int32)) + (1 : Int32)) + (1 : Int32)) + (1 : Int32)) + (1 : Int32)))])) t → Steps p.tables e below (s₁.setTop (entryFrame m #[(.ref a5_0), (.int p5_1)] 2)) t := by
                        intro t k
                        refine k38 t ?_
                        show Steps p.tables e below (T37.setTop (mkF m 16 #[.val (.ref a5_0), .val (.int ((((p5_1 + (1 : Int32)) + (1 : Int32)) + (1 : Int32)) + (1 : Int32)))] [(.int (own_dg2 (own_get6 c0 c1 c2 c3 c4 c5 ((((p5_1 + (1 : Int32)) + (1 : Int32)) + (1 : Int32)) + (1 : Int32)))))])) _
                        refine XS.ifNo X37.here hx rfl (hb hby d5_16) rfl ((if0 _ _).trans (feq hc16_39).1) ?_
                        show Steps p.tables e below (T37.setTop (mkF m 19 #[.val (.ref a5_0), .val (.int ((((p5_1 + (1 : Int32)) + (1 : Int32)) + (1 : Int32)) + (1 : Int32)))] [])) _
                        refine XS.iinc X37.here hx rfl (hb hby d5_19) rfl (l' := #[.val (.ref a5_0), .val (.int (((((p5_1 + (1 : Int32)) + (1 : Int32)) + (1 : Int32)) + (1 : Int32)) + (1 : Int32)))]) rfl ?_
                        show Steps p.tables e below (T37.setTop (mkF m 22 #[.val (.ref a5_0), .val (.int (((((p5_1 + (1 : Int32)) + (1 : Int32)) + (1 : Int32)) + (1 : Int32)) + (1 : Int32)))] [])) _
                        refine XS.goto X37.here hx rfl (pc0 := 22) (pc' := 0) rfl (hb hby d5_22) (by decide) (by decide) ?_
                        show Steps p.tables e below (T37.setTop (mkF m 0 #[.val (.ref a5_0), .val (.int (((((p5_1 + (1 : Int32)) + (1 : Int32)) + (1 : Int32)) + (1 : Int32)) + (1 : Int32)))] [])) _
                        refine XS.iloadN X37.here hx rfl (hb hby d5_0) rfl ?_
                        show Steps p.tables e below (T37.setTop (mkF m 1 #[.val (.ref a5_0), .val (.int (((((p5_1 + (1 : Int32)) + (1 : Int32)) + (1 : Int32)) + (1 : Int32)) + (1 : Int32)))] [(.int (((((p5_1 + (1 : Int32)) + (1 : Int32)) + (1 : Int32)) + (1 : Int32)) + (1 : Int32)))])) _
                        refine XS.aloadN X37.here hx rfl (hb hby d5_1) rfl rfl ?_
                        show Steps p.tables e below (T37.setTop (mkF m 2 #[.val (.ref a5_0), .val (.int (((((p5_1 + (1 : Int32)) + (1 : Int32)) + (1 : Int32)) + (1 : Int32)) + (1 : Int32)))] [(.ref a5_0), (.int (((((p5_1 + (1 : Int32)) + (1 : Int32)) + (1 : Int32)) + (1 : Int32)) + (1 : Int32)))])) _
                        refine st41.trans ?_
                        exact k
                      by_cases hc5_43 : (((((p5_1 + (1 : Int32)) + (1 : Int32)) + (1 : Int32)) + (1 : Int32)) + (1 : Int32)) < (6 : Int32)
                      · skip
                        obtain ⟨cq44, kq44, q44a, q44b, q44c⟩ := isOf hZ eh41 Es
                        obtain ⟨_, _, ⟨T44, L44, k44, n44⟩, -, X44, ⟨Lc44, hQ44, l44, y44, z44⟩, st44⟩ := X41.virtualBack hx (y := (⟨"java/lang/String", "charAt", "(I)C"⟩ : MethodName)) (z := (⟨"java/lang/String", "charAt", "(I)C"⟩ : MethodName)) hown (mvT hZ (hw _ (List.mem_of_getElem? (i := 60) rfl))) (mvT hZ (hw _ (List.mem_of_getElem? (i := 61) rfl))) (notFace_of_selects (args := #[]) (mvT hZ (hw _ (List.mem_of_getElem? (i := 63) rfl)))) (mvT hZ (hw _ (List.mem_of_getElem? (i := 63) rfl))) (mvT hZ (hw _ (List.mem_of_getElem? (i := 62) rfl))) (by decide) (StrChars.Road.chN (W := 0) hZ (fun d hd => hw d (own_sub_chN d hd)) (kI := 4) (hw _ (List.mem_of_getElem? (i := 9) rfl)) Es Fv Fc Vb (StrChars.Road.codOf rfl (fun c hc => (hp c hc).2)) (own_u16 hp) Sc hcs Sf hfm (Nat.le_of_ble_eq_true rfl) (i := ((((((p5_1 + (1 : Int32)) + (1 : Int32)) + (1 : Int32)) + (1 : Int32)) + (1 : Int32))).toNatClampNeg) (own_ilt (own_nn _ (own_nn _ (own_nn _ (own_nn _ (own_nn _ hq0 hc5_3).1 hc5_11).1 hc5_19).1 hc5_27).1 hc5_35).1 hc5_43) (j := (((((p5_1 + (1 : Int32)) + (1 : Int32)) + (1 : Int32)) + (1 : Int32)) + (1 : Int32))) (own_ofn _ (own_nn _ (own_nn _ (own_nn _ (own_nn _ (own_nn _ hq0 hc5_3).1 hc5_11).1 hc5_19).1 hc5_27).1 hc5_35).1) (by decide) (by decide)) q44a q44c (g := (mkF m 10 #[.val (.ref a5_0), .val (.int (((((p5_1 + (1 : Int32)) + (1 : Int32)) + (1 : Int32)) + (1 : Int32)) + (1 : Int32)))] [(.int (((((p5_1 + (1 : Int32)) + (1 : Int32)) + (1 : Int32)) + (1 : Int32)) + (1 : Int32))), (.ref a5_0)])) rfl (by rw [hml]; rfl) (Steps.refl _) (argsL := [(.int (((((p5_1 + (1 : Int32)) + (1 : Int32)) + (1 : Int32)) + (1 : Int32)) + (1 : Int32)))]) (rest := []) (lenOf pd_2 rfl) rfl (by show 2 * 0 + _ ≤ _; exact Nat.le_of_eq rfl) (hb hby d5_10) (fun _ _ => ⟨rfl, eh41, (by decide : 0 + 0 ≤ _), (by decide : 0 + 0 ≤ _)⟩)
                        dsimp only [Pt.U, Pt.locs, Pt.cells, Pt.slots] at X44 l44 y44 z44 st44 hQ44
                        rw [l44, y44, z44] at X44
                        rw [own_getD6 _ _ _ _ _ _ _ (own_nn _ (own_nn _ (own_nn _ (own_nn _ (own_nn _ hq0 hc5_3).1 hc5_11).1 hc5_19).1 hc5_27).1 hc5_35).1 hc5_43] at hQ44
                        obtain ⟨rfl, rfl, eh44⟩ := hQ44
                        have N44 := Fr.app N41 (Fr.nil n0)
                        obtain ⟨_, _, ⟨T45, L45, k45, n45⟩, -, X45, ⟨Lc45, hQ45, l45, y45, z45⟩, st45⟩ := Jvm.LawKit.callS X44 hx (y := (⟨"com/example/oyster/oyster/engine/Literals", "isDigit", "(C)Z"⟩ : MethodName)) hown (mvT hZ (hw _ (List.mem_of_getElem? (i := 82) rfl))) (mvT hZ (hw _ (List.mem_of_getElem? (i := 83) rfl))) (mvT hZ (hw _ (List.mem_of_getElem? (i := 45) rfl))) (mvT hZ (hw _ (List.mem_of_getElem? (i := 84) rfl))) (by decide) (backOf (W := 0) (rm3 l Z a0 hw [] (own_get6 c0 c1 c2 c3 c4 c5 (((((p5_1 + (1 : Int32)) + (1 : Int32)) + (1 : Int32)) + (1 : Int32)) + (1 : Int32))) h0 n0 Z0 ) hZ (hw _ (List.mem_of_getElem? (i := 84) rfl)) (hw _ (List.mem_of_getElem? (i := 45) rfl)) (by decide) (by decide)) (g := (mkF m 13 #[.val (.ref a5_0), .val (.int (((((p5_1 + (1 : Int32)) + (1 : Int32)) + (1 : Int32)) + (1 : Int32)) + (1 : Int32)))] [(.int (own_get6 c0 c1 c2 c3 c4 c5 (((((p5_1 + (1 : Int32)) + (1 : Int32)) + (1 : Int32)) + (1 : Int32)) + (1 : Int32))))])) rfl (by rw [hml]; rfl) (argsL := [(.int (own_get6 c0 c1 c2 c3 c4 c5 (((((p5_1 + (1 : Int32)) + (1 : Int32)) + (1 : Int32)) + (1 : Int32)) + (1 : Int32))))]) (rest := []) (lenOf pd_0 rfl) rfl (by show 2 * 0 + _ ≤ _; exact Nat.le_of_eq rfl) (hb hby d5_13) (fun _ _ => ⟨rfl, eh44, (by decide : 0 + 0 ≤ _), (by decide : 0 + 0 ≤ _)⟩)
                        dsimp only [Pt.U, Pt.locs, Pt.cells, Pt.slots] at X45 l45 y45 z45 st45 hQ45
                        rw [l45, y45, z45] at X45
                        obtain ⟨rfl, N45q, eh45⟩ := hQ45
                        have N45 := Fr.app N44 N45q
                        have k46 : ∀ t, Steps p.tables e below (T45.setTop (mkF m 16 #[.val (.ref a5_0), .val (.int (((((p5_1 + (1 : Int32)) + (1 : Int32)) + (1 : Int32)) + (1 : Int32)) + (1 : Int32)))] [(.int (own_dg2 (own_get6 c0 c1 c2 c3 c4 c5 (((((p5_1 + (1 : Int32)) + (1 : Int32)) + (1 : Int32)) + (1 : Int32)) + (1 : Int32)))))])) t → Steps p.tables e below (s₁.setTop (entryFrame m #[(.ref a5_0), (.int p5_1)] 2)) t := by
                          intro t k
                          refine k42 t ?_
                          show Steps p.tables e below (T41.setTop (mkF m 5 #[.val (.ref a5_0), .val (.int (((((p5_1 + (1 : Int32)) + (1 : Int32)) + (1 : Int32)) + (1 : Int32)) + (1 : Int32)))] [(.int (6 : Int32)), (.int (((((p5_1 + (1 : Int32)) + (1 : Int32)) + (1 : Int32)) + (1 : Int32)) + (1 : Int32)))])) _
                          refine XS.icmpNo X41.here hx rfl (hb hby d5_5) rfl (tlt hc5_43).2.1 ?_
                          show Steps p.tables e below (T41.setTop (mkF m 8 #[.val (.ref a5_0), .val (.int (((((p5_1 + (1 : Int32)) + (1 : Int32)) + (1 : Int32)) + (1 : Int32)) + (1 : Int32)))] [])) _
                          refine XS.aloadN X41.here hx rfl (hb hby d5_8) rfl rfl ?_
                          show Steps p.tables e below (T41.setTop (mkF m 9 #[.val (.ref a5_0), .val (.int (((((p5_1 + (1 : Int32)) + (1 : Int32)) + (1 : Int32)) + (1 : Int32)) + (1 : Int32)))] [(.ref a5_0)])) _
                          refine XS.iloadN X41.here hx rfl (hb hby d5_9) rfl ?_
                          show Steps p.tables e below (T41.setTop (mkF m 10 #[.val (.ref a5_0), .val (.int (((((p5_1 + (1 : Int32)) + (1 : Int32)) + (1 : Int32)) + (1 : Int32)) + (1 : Int32)))] [(.int (((((p5_1 + (1 : Int32)) + (1 : Int32)) + (1 : Int32)) + (1 : Int32)) + (1 : Int32))), (.ref a5_0)])) _
                          refine st44.trans ?_
                          show Steps p.tables e below (T44.setTop (mkF m 13 #[.val (.ref a5_0), .val (.int (((((p5_1 + (1 : Int32)) + (1 : Int32)) + (1 : Int32)) + (1 : Int32)) + (1 : Int32)))] [(.int (own_get6 c0 c1 c2 c3 c4 c5 (((((p5_1 + (1 : Int32)) + (1 : Int32)) + (1 : Int32)) + (1 : Int32)) + (1 : Int32))))])) _
                          refine st45 _ ?_
                          exact k
                        by_cases hc16_47 : (own_dg2 (own_get6 c0 c1 c2 c3 c4 c5 (((((p5_1 + (1 : Int32)) + (1 : Int32)) + (1 : Int32)) + (1 : Int32)) + (1 : Int32)))) = (0 : Int32)
                        · skip
                          have k48 : ∀ t, Steps p.tables e below (T45.setTop (mkF m 26 #[.val (.ref a5_0), .val (.int (((((p5_1 + (1 : Int32)) + (1 : Int32)) + (1 : Int32)) + (1 : Int32)) + (1 : Int32)))] [(.int (((((p5_1 + (1 : Int32)) + (1 : Int32)) + (1 : Int32)) + (1 : Int32)) + (1 : Int32)))])) t → Steps p.tables e below (s₁.setTop (entryFrame m #[(.ref a5_0), (.int p5_1)] 2)) t := by
                            intro t k
                            refine k46 t ?_
                            show Steps p.tables e below (T45.setTop (mkF m 16 #[.val (.ref a5_0), .val (.int (((((p5_1 + (1 : Int32)) + (1 : Int32)) + (1 : Int32)) + (1 : Int32)) + (1 : Int32)))] [(.int (own_dg2 (own_get6 c0 c1 c2 c3 c4 c5 (((((p5_1 + (1 : Int32)) + (1 : Int32)) + (1 : Int32)) + (1 : Int32)) + (1 : Int32)))))])) _
                            refine XS.ifYes X45.here hx rfl (pc0 := 16) (pc' := 25) rfl (hb hby d5_16) rfl ((if0 _ _).trans (teq hc16_47).1) (by decide) (by decide) ?_
                            show Steps p.tables e below (T45.setTop (mkF m 25 #[.val (.ref a5_0), .val (.int (((((p5_1 + (1 : Int32)) + (1 : Int32)) + (1 : Int32)) + (1 : Int32)) + (1 : Int32)))] [])) _
                            refine XS.iloadN X45.here hx rfl (hb hby d5_25) rfl ?_
                            exact k
                          obtain ⟨fs, hr, hrun, hended, hW, hsame⟩ := X45.leave (v := some (.int (((((p5_1 + (1 : Int32)) + (1 : Int32)) + (1 : Int32)) + (1 : Int32)) + (1 : Int32)))) (fun h => by rw [Bd.returns] at h; cases h)
                          refine ⟨_, _, k48 _ ?_, hrun, hended, _, _, rfl, ?_, ⟨_, rfl⟩, hW, hsame.mono (by decide) (by decide)⟩
                          · exact retI X45 hx Bd.returns (hb hby d5_26) hr
                          · show Q5 Z a5_0 p5_1 tt kk cs fm c0 c1 c2 c3 c4 c5 h0 n0 _ T45.heap _
                            rw [eh45]
                            exact ⟨congrArg (fun z => some (Value.int z)) (show ((((((p5_1 + (1 : Int32)) + (1 : Int32)) + (1 : Int32)) + (1 : Int32)) + (1 : Int32)) : Int32) = own_de p5_1 c0 c1 c2 c3 c4 c5 from by unfold own_de; rw [if_pos hc5_3, if_neg hc16_7, if_pos hc5_11, if_neg hc16_15, if_pos hc5_19, if_neg hc16_23, if_pos hc5_27, if_neg hc16_31, if_pos hc5_35, if_neg hc16_39, if_pos hc5_43, if_pos hc16_47]), N45, rfl⟩
                        · skip
                          obtain ⟨cq49, kq49, q49a, q49b, q49c⟩ := isOf hZ eh45 Es
                          obtain ⟨_, _, ⟨T49, L49, k49, n49⟩, -, X49, ⟨Lc49, hQ49, l49, y49, z49⟩, st49⟩ := X45.virtualBack hx (y := (⟨"java/lang/String", "length", "()I"⟩ : MethodName)) (z := (⟨"java/lang/String", "length", "()I"⟩ : MethodName)) hown (mvT hZ (hw _ (List.mem_of_getElem? (i := 50) rfl))) (mvT hZ (hw _ (List.mem_of_getElem? (i := 51) rfl))) (notFace_of_selects (args := #[]) (mvT hZ (hw _ (List.mem_of_getElem? (i := 53) rfl)))) (mvT hZ (hw _ (List.mem_of_getElem? (i := 53) rfl))) (mvT hZ (hw _ (List.mem_of_getElem? (i := 52) rfl))) (by decide) (StrChars.Road.lenW (W := 1) hZ (fun d hd => hw d (own_sub_lenW d hd)) (kI := 4) (hw _ (List.mem_of_getElem? (i := 9) rfl)) Es Fv Fc Vb (StrChars.Road.codOf rfl (fun c hc => (hp c hc).2)) (own_u16 hp) Sc hcs (Nat.le_of_ble_eq_true rfl) (by decide) (by decide)) q49a q49c (g := (mkF m 2 #[.val (.ref a5_0), .val (.int ((((((p5_1 + (1 : Int32)) + (1 : Int32)) + (1 : Int32)) + (1 : Int32)) + (1 : Int32)) + (1 : Int32)))] [(.ref a5_0), (.int ((((((p5_1 + (1 : Int32)) + (1 : Int32)) + (1 : Int32)) + (1 : Int32)) + (1 : Int32)) + (1 : Int32)))])) rfl (by rw [hml]; rfl) (Steps.refl _) (argsL := []) (rest := [(.int ((((((p5_1 + (1 : Int32)) + (1 : Int32)) + (1 : Int32)) + (1 : Int32)) + (1 : Int32)) + (1 : Int32)))]) (lenOf pd_1 rfl) rfl (by show 2 * 0 + _ ≤ _; exact Nat.le_of_eq rfl) (hb hby d5_2) (fun _ _ => ⟨rfl, eh45, (by decide : 0 + 0 ≤ _), (by decide : 0 + 0 ≤ _)⟩)
                          dsimp only [Pt.U, Pt.locs, Pt.cells, Pt.slots] at X49 l49 y49 z49 st49 hQ49
                          rw [l49, y49, z49] at X49
                          obtain ⟨rfl, rfl, eh49⟩ := hQ49
                          have N49 := Fr.app N45 (Fr.nil n0)
                          have k50 : ∀ t, Steps p.tables e below (T49.setTop (mkF m 26 #[.val (.ref a5_0), .val (.int ((((((p5_1 + (1 : Int32)) + (1 : Int32)) + (1 : Int32)) + (1 : Int32)) + (1 : Int32)) + (1 : Int32)))] [(.int ((((((p5_1 + (1 : Int32)) + (1 : Int32)) + (1 : Int32)) + (1 : Int32)) + (1 : Int32)) + (1 : Int32)))])) t → Steps p.tables e below (s₁.setTop (entryFrame m #[(.ref a5_0), (.int p5_1)] 2)) t := by
                            intro t k
                            refine k46 t ?_
                            show Steps p.tables e below (T45.setTop (mkF m 16 #[.val (.ref a5_0), .val (.int (((((p5_1 + (1 : Int32)) + (1 : Int32)) + (1 : Int32)) + (1 : Int32)) + (1 : Int32)))] [(.int (own_dg2 (own_get6 c0 c1 c2 c3 c4 c5 (((((p5_1 + (1 : Int32)) + (1 : Int32)) + (1 : Int32)) + (1 : Int32)) + (1 : Int32)))))])) _
                            refine XS.ifNo X45.here hx rfl (hb hby d5_16) rfl ((if0 _ _).trans (feq hc16_47).1) ?_
                            show Steps p.tables e below (T45.setTop (mkF m 19 #[.val (.ref a5_0), .val (.int (((((p5_1 + (1 : Int32)) + (1 : Int32)) + (1 : Int32)) + (1 : Int32)) + (1 : Int32)))] [])) _
                            refine XS.iinc X45.here hx rfl (hb hby d5_19) rfl (l' := #[.val (.ref a5_0), .val (.int ((((((p5_1 + (1 : Int32)) + (1 : Int32)) + (1 : Int32)) + (1 : Int32)) + (1 : Int32)) + (1 : Int32)))]) rfl ?_
                            show Steps p.tables e below (T45.setTop (mkF m 22 #[.val (.ref a5_0), .val (.int ((((((p5_1 + (1 : Int32)) + (1 : Int32)) + (1 : Int32)) + (1 : Int32)) + (1 : Int32)) + (1 : Int32)))] [])) _
                            refine XS.goto X45.here hx rfl (pc0 := 22) (pc' := 0) rfl (hb hby d5_22) (by decide) (by decide) ?_
                            show Steps p.tables e below (T45.setTop (mkF m 0 #[.val (.ref a5_0), .val (.int ((((((p5_1 + (1 : Int32)) + (1 : Int32)) + (1 : Int32)) + (1 : Int32)) + (1 : Int32)) + (1 : Int32)))] [])) _
                            refine XS.iloadN X45.here hx rfl (hb hby d5_0) rfl ?_
                            show Steps p.tables e below (T45.setTop (mkF m 1 #[.val (.ref a5_0), .val (.int ((((((p5_1 + (1 : Int32)) + (1 : Int32)) + (1 : Int32)) + (1 : Int32)) + (1 : Int32)) + (1 : Int32)))] [(.int ((((((p5_1 + (1 : Int32)) + (1 : Int32)) + (1 : Int32)) + (1 : Int32)) + (1 : Int32)) + (1 : Int32)))])) _
                            refine XS.aloadN X45.here hx rfl (hb hby d5_1) rfl rfl ?_
                            show Steps p.tables e below (T45.setTop (mkF m 2 #[.val (.ref a5_0), .val (.int ((((((p5_1 + (1 : Int32)) + (1 : Int32)) + (1 : Int32)) + (1 : Int32)) + (1 : Int32)) + (1 : Int32)))] [(.ref a5_0), (.int ((((((p5_1 + (1 : Int32)) + (1 : Int32)) + (1 : Int32)) + (1 : Int32)) + (1 : Int32)) + (1 : Int32)))])) _
                            refine st49.trans ?_
                            show Steps p.tables e below (T49.setTop (mkF m 5 #[.val (.ref a5_0), .val (.int ((((((p5_1 + (1 : Int32)) + (1 : Int32)) + (1 : Int32)) + (1 : Int32)) + (1 : Int32)) + (1 : Int32)))] [(.int (6 : Int32)), (.int ((((((p5_1 + (1 : Int32)) + (1 : Int32)) + (1 : Int32)) + (1 : Int32)) + (1 : Int32)) + (1 : Int32)))])) _
                            refine XS.icmpYes X49.here hx rfl (pc0 := 5) (pc' := 25) rfl (hb hby d5_5) rfl (flt (own_no7 p5_1 hq0 hc5_3 hc5_11 hc5_19 hc5_27 hc5_35 hc5_43)).2.1 (by decide) (by decide) ?_
                            show Steps p.tables e below (T49.setTop (mkF m 25 #[.val (.ref a5_0), .val (.int ((((((p5_1 + (1 : Int32)) + (1 : Int32)) + (1 : Int32)) + (1 : Int32)) + (1 : Int32)) + (1 : Int32)))] [])) _
                            refine XS.iloadN X49.here hx rfl (hb hby d5_25) rfl ?_
                            exact k
                          obtain ⟨fs, hr, hrun, hended, hW, hsame⟩ := X49.leave (v := some (.int ((((((p5_1 + (1 : Int32)) + (1 : Int32)) + (1 : Int32)) + (1 : Int32)) + (1 : Int32)) + (1 : Int32)))) (fun h => by rw [Bd.returns] at h; cases h)
                          refine ⟨_, _, k50 _ ?_, hrun, hended, _, _, rfl, ?_, ⟨_, rfl⟩, hW, hsame.mono (by decide) (by decide)⟩
                          · exact retI X49 hx Bd.returns (hb hby d5_26) hr
                          · show Q5 Z a5_0 p5_1 tt kk cs fm c0 c1 c2 c3 c4 c5 h0 n0 _ T49.heap _
                            rw [eh49]
                            exact ⟨congrArg (fun z => some (Value.int z)) (show (((((((p5_1 + (1 : Int32)) + (1 : Int32)) + (1 : Int32)) + (1 : Int32)) + (1 : Int32)) + (1 : Int32)) : Int32) = own_de p5_1 c0 c1 c2 c3 c4 c5 from by unfold own_de; rw [if_pos hc5_3, if_neg hc16_7, if_pos hc5_11, if_neg hc16_15, if_pos hc5_19, if_neg hc16_23, if_pos hc5_27, if_neg hc16_31, if_pos hc5_35, if_neg hc16_39, if_pos hc5_43, if_neg hc16_47]), N49, rfl⟩
                      · skip
                        have k51 : ∀ t, Steps p.tables e below (T41.setTop (mkF m 26 #[.val (.ref a5_0), .val (.int (((((p5_1 + (1 : Int32)) + (1 : Int32)) + (1 : Int32)) + (1 : Int32)) + (1 : Int32)))] [(.int (((((p5_1 + (1 : Int32)) + (1 : Int32)) + (1 : Int32)) + (1 : Int32)) + (1 : Int32)))])) t → Steps p.tables e below (s₁.setTop (entryFrame m #[(.ref a5_0), (.int p5_1)] 2)) t := by
                          intro t k
                          refine k42 t ?_
                          show Steps p.tables e below (T41.setTop (mkF m 5 #[.val (.ref a5_0), .val (.int (((((p5_1 + (1 : Int32)) + (1 : Int32)) + (1 : Int32)) + (1 : Int32)) + (1 : Int32)))] [(.int (6 : Int32)), (.int (((((p5_1 + (1 : Int32)) + (1 : Int32)) + (1 : Int32)) + (1 : Int32)) + (1 : Int32)))])) _
                          refine XS.icmpYes X41.here hx rfl (pc0 := 5) (pc' := 25) rfl (hb hby d5_5) rfl (flt hc5_43).2.1 (by decide) (by decide) ?_
                          show Steps p.tables e below (T41.setTop (mkF m 25 #[.val (.ref a5_0), .val (.int (((((p5_1 + (1 : Int32)) + (1 : Int32)) + (1 : Int32)) + (1 : Int32)) + (1 : Int32)))] [])) _
                          refine XS.iloadN X41.here hx rfl (hb hby d5_25) rfl ?_
                          exact k
                        obtain ⟨fs, hr, hrun, hended, hW, hsame⟩ := X41.leave (v := some (.int (((((p5_1 + (1 : Int32)) + (1 : Int32)) + (1 : Int32)) + (1 : Int32)) + (1 : Int32)))) (fun h => by rw [Bd.returns] at h; cases h)
                        refine ⟨_, _, k51 _ ?_, hrun, hended, _, _, rfl, ?_, ⟨_, rfl⟩, hW, hsame.mono (by decide) (by decide)⟩
                        · exact retI X41 hx Bd.returns (hb hby d5_26) hr
                        · show Q5 Z a5_0 p5_1 tt kk cs fm c0 c1 c2 c3 c4 c5 h0 n0 _ T41.heap _
                          rw [eh41]
                          exact ⟨congrArg (fun z => some (Value.int z)) (show ((((((p5_1 + (1 : Int32)) + (1 : Int32)) + (1 : Int32)) + (1 : Int32)) + (1 : Int32)) : Int32) = own_de p5_1 c0 c1 c2 c3 c4 c5 from by unfold own_de; rw [if_pos hc5_3, if_neg hc16_7, if_pos hc5_11, if_neg hc16_15, if_pos hc5_19, if_neg hc16_23, if_pos hc5_27, if_neg hc16_31, if_pos hc5_35, if_neg hc16_39, if_neg hc5_43]), N41, rfl⟩
                  · skip
                    have k52 : ∀ t, Steps p.tables e below (T33.setTop (mkF m 26 #[.val (.ref a5_0), .val (.int ((((p5_1 + (1 : Int32)) + (1 : Int32)) + (1 : Int32)) + (1 : Int32)))] [(.int ((((p5_1 + (1 : Int32)) + (1 : Int32)) + (1 : Int32)) + (1 : Int32)))])) t → Steps p.tables e below (s₁.setTop (entryFrame m #[(.ref a5_0), (.int p5_1)] 2)) t := by
                      intro t k
                      refine k34 t ?_
                      show Steps p.tables e below (T33.setTop (mkF m 5 #[.val (.ref a5_0), .val (.int ((((p5_1 + (1 : Int32)) + (1 : Int32)) + (1 : Int32)) + (1 : Int32)))] [(.int (6 : Int32)), (.int ((((p5_1 + (1 : Int32)) + (1 : Int32)) + (1 : Int32)) + (1 : Int32)))])) _
                      refine XS.icmpYes X33.here hx rfl (pc0 := 5) (pc' := 25) rfl (hb hby d5_5) rfl (flt hc5_35).2.1 (by decide) (by decide) ?_
                      show Steps p.tables e below (T33.setTop (mkF m 25 #[.val (.ref a5_0), .val (.int ((((p5_1 + (1 : Int32)) + (1 : Int32)) + (1 : Int32)) + (1 : Int32)))] [])) _
                      refine XS.iloadN X33.here hx rfl (hb hby d5_25) rfl ?_
                      exact k
                    obtain ⟨fs, hr, hrun, hended, hW, hsame⟩ := X33.leave (v := some (.int ((((p5_1 + (1 : Int32)) + (1 : Int32)) + (1 : Int32)) + (1 : Int32)))) (fun h => by rw [Bd.returns] at h; cases h)
                    refine ⟨_, _, k52 _ ?_, hrun, hended, _, _, rfl, ?_, ⟨_, rfl⟩, hW, hsame.mono (by decide) (by decide)⟩
                    · exact retI X33 hx Bd.returns (hb hby d5_26) hr
                    · show Q5 Z a5_0 p5_1 tt kk cs fm c0 c1 c2 c3 c4 c5 h0 n0 _ T33.heap _
                      rw [eh33]
                      exact ⟨congrArg (fun z => some (Value.int z)) (show (((((p5_1 + (1 : Int32)) + (1 : Int32)) + (1 : Int32)) + (1 : Int32)) : Int32) = own_de p5_1 c0 c1 c2 c3 c4 c5 from by unfold own_de; rw [if_pos hc5_3, if_neg hc16_7, if_pos hc5_11, if_neg hc16_15, if_pos hc5_19, if_neg hc16_23, if_pos hc5_27, if_neg hc16_31, if_neg hc5_35]), N33, rfl⟩
              · skip
                have k53 : ∀ t, Steps p.tables e below (T25.setTop (mkF m 26 #[.val (.ref a5_0), .val (.int (((p5_1 + (1 : Int32)) + (1 : Int32)) + (1 : Int32)))] [(.int (((p5_1 + (1 : Int32)) + (1 : Int32)) + (1 : Int32)))])) t → Steps p.tables e below (s₁.setTop (entryFrame m #[(.ref a5_0), (.int p5_1)] 2)) t := by
                  intro t k
                  refine k26 t ?_
                  show Steps p.tables e below (T25.setTop (mkF m 5 #[.val (.ref a5_0), .val (.int (((p5_1 + (1 : Int32)) + (1 : Int32)) + (1 : Int32)))] [(.int (6 : Int32)), (.int (((p5_1 + (1 : Int32)) + (1 : Int32)) + (1 : Int32)))])) _
                  refine XS.icmpYes X25.here hx rfl (pc0 := 5) (pc' := 25) rfl (hb hby d5_5) rfl (flt hc5_27).2.1 (by decide) (by decide) ?_
                  show Steps p.tables e below (T25.setTop (mkF m 25 #[.val (.ref a5_0), .val (.int (((p5_1 + (1 : Int32)) + (1 : Int32)) + (1 : Int32)))] [])) _
                  refine XS.iloadN X25.here hx rfl (hb hby d5_25) rfl ?_
                  exact k
                obtain ⟨fs, hr, hrun, hended, hW, hsame⟩ := X25.leave (v := some (.int (((p5_1 + (1 : Int32)) + (1 : Int32)) + (1 : Int32)))) (fun h => by rw [Bd.returns] at h; cases h)
                refine ⟨_, _, k53 _ ?_, hrun, hended, _, _, rfl, ?_, ⟨_, rfl⟩, hW, hsame.mono (by decide) (by decide)⟩
                · exact retI X25 hx Bd.returns (hb hby d5_26) hr
                · show Q5 Z a5_0 p5_1 tt kk cs fm c0 c1 c2 c3 c4 c5 h0 n0 _ T25.heap _
                  rw [eh25]
                  exact ⟨congrArg (fun z => some (Value.int z)) (show ((((p5_1 + (1 : Int32)) + (1 : Int32)) + (1 : Int32)) : Int32) = own_de p5_1 c0 c1 c2 c3 c4 c5 from by unfold own_de; rw [if_pos hc5_3, if_neg hc16_7, if_pos hc5_11, if_neg hc16_15, if_pos hc5_19, if_neg hc16_23, if_neg hc5_27]), N25, rfl⟩
          · skip
            have k54 : ∀ t, Steps p.tables e below (T17.setTop (mkF m 26 #[.val (.ref a5_0), .val (.int ((p5_1 + (1 : Int32)) + (1 : Int32)))] [(.int ((p5_1 + (1 : Int32)) + (1 : Int32)))])) t → Steps p.tables e below (s₁.setTop (entryFrame m #[(.ref a5_0), (.int p5_1)] 2)) t := by
              intro t k
              refine k18 t ?_
              show Steps p.tables e below (T17.setTop (mkF m 5 #[.val (.ref a5_0), .val (.int ((p5_1 + (1 : Int32)) + (1 : Int32)))] [(.int (6 : Int32)), (.int ((p5_1 + (1 : Int32)) + (1 : Int32)))])) _
              refine XS.icmpYes X17.here hx rfl (pc0 := 5) (pc' := 25) rfl (hb hby d5_5) rfl (flt hc5_19).2.1 (by decide) (by decide) ?_
              show Steps p.tables e below (T17.setTop (mkF m 25 #[.val (.ref a5_0), .val (.int ((p5_1 + (1 : Int32)) + (1 : Int32)))] [])) _
              refine XS.iloadN X17.here hx rfl (hb hby d5_25) rfl ?_
              exact k
            obtain ⟨fs, hr, hrun, hended, hW, hsame⟩ := X17.leave (v := some (.int ((p5_1 + (1 : Int32)) + (1 : Int32)))) (fun h => by rw [Bd.returns] at h; cases h)
            refine ⟨_, _, k54 _ ?_, hrun, hended, _, _, rfl, ?_, ⟨_, rfl⟩, hW, hsame.mono (by decide) (by decide)⟩
            · exact retI X17 hx Bd.returns (hb hby d5_26) hr
            · show Q5 Z a5_0 p5_1 tt kk cs fm c0 c1 c2 c3 c4 c5 h0 n0 _ T17.heap _
              rw [eh17]
              exact ⟨congrArg (fun z => some (Value.int z)) (show (((p5_1 + (1 : Int32)) + (1 : Int32)) : Int32) = own_de p5_1 c0 c1 c2 c3 c4 c5 from by unfold own_de; rw [if_pos hc5_3, if_neg hc16_7, if_pos hc5_11, if_neg hc16_15, if_neg hc5_19]), N17, rfl⟩
      · skip
        have k55 : ∀ t, Steps p.tables e below (T9.setTop (mkF m 26 #[.val (.ref a5_0), .val (.int (p5_1 + (1 : Int32)))] [(.int (p5_1 + (1 : Int32)))])) t → Steps p.tables e below (s₁.setTop (entryFrame m #[(.ref a5_0), (.int p5_1)] 2)) t := by
          intro t k
          refine k10 t ?_
          show Steps p.tables e below (T9.setTop (mkF m 5 #[.val (.ref a5_0), .val (.int (p5_1 + (1 : Int32)))] [(.int (6 : Int32)), (.int (p5_1 + (1 : Int32)))])) _
          refine XS.icmpYes X9.here hx rfl (pc0 := 5) (pc' := 25) rfl (hb hby d5_5) rfl (flt hc5_11).2.1 (by decide) (by decide) ?_
          show Steps p.tables e below (T9.setTop (mkF m 25 #[.val (.ref a5_0), .val (.int (p5_1 + (1 : Int32)))] [])) _
          refine XS.iloadN X9.here hx rfl (hb hby d5_25) rfl ?_
          exact k
        obtain ⟨fs, hr, hrun, hended, hW, hsame⟩ := X9.leave (v := some (.int (p5_1 + (1 : Int32)))) (fun h => by rw [Bd.returns] at h; cases h)
        refine ⟨_, _, k55 _ ?_, hrun, hended, _, _, rfl, ?_, ⟨_, rfl⟩, hW, hsame.mono (by decide) (by decide)⟩
        · exact retI X9 hx Bd.returns (hb hby d5_26) hr
        · show Q5 Z a5_0 p5_1 tt kk cs fm c0 c1 c2 c3 c4 c5 h0 n0 _ T9.heap _
          rw [eh9]
          exact ⟨congrArg (fun z => some (Value.int z)) (show ((p5_1 + (1 : Int32)) : Int32) = own_de p5_1 c0 c1 c2 c3 c4 c5 from by unfold own_de; rw [if_pos hc5_3, if_neg hc16_7, if_neg hc5_11]), N9, rfl⟩
  · skip
    have k56 : ∀ t, Steps p.tables e below (T1.setTop (mkF m 26 #[.val (.ref a5_0), .val (.int p5_1)] [(.int p5_1)])) t → Steps p.tables e below (s₁.setTop (entryFrame m #[(.ref a5_0), (.int p5_1)] 2)) t := by
      intro t k
      refine k2 t ?_
      show Steps p.tables e below (T1.setTop (mkF m 5 #[.val (.ref a5_0), .val (.int p5_1)] [(.int (6 : Int32)), (.int p5_1)])) _
      refine XS.icmpYes X1.here hx rfl (pc0 := 5) (pc' := 25) rfl (hb hby d5_5) rfl (flt hc5_3).2.1 (by decide) (by decide) ?_
      show Steps p.tables e below (T1.setTop (mkF m 25 #[.val (.ref a5_0), .val (.int p5_1)] [])) _
      refine XS.iloadN X1.here hx rfl (hb hby d5_25) rfl ?_
      exact k
    obtain ⟨fs, hr, hrun, hended, hW, hsame⟩ := X1.leave (v := some (.int p5_1)) (fun h => by rw [Bd.returns] at h; cases h)
    refine ⟨_, _, k56 _ ?_, hrun, hended, _, _, rfl, ?_, ⟨_, rfl⟩, hW, hsame.mono (by decide) (by decide)⟩
    · exact retI X1 hx Bd.returns (hb hby d5_26) hr
    · show Q5 Z a5_0 p5_1 tt kk cs fm c0 c1 c2 c3 c4 c5 h0 n0 _ T1.heap _
      rw [eh1]
      exact ⟨congrArg (fun z => some (Value.int z)) (show (p5_1 : Int32) = own_de p5_1 c0 c1 c2 c3 c4 c5 from by unfold own_de; rw [if_neg hc5_3]), N1, rfl⟩
theorem own_sev (j : Int32) (h0 : ¬ j < 0) (h1 : ¬ (6 : Int32) < j) : j = 0 ∨ j = 1 ∨ j = 2 ∨ j = 3 ∨ j = 4 ∨ j = 5 ∨ j = 6 := by
  simp only [own_lt, own_eqi, show (0 : Int32).toInt = 0 from rfl, show (1 : Int32).toInt = 1 from rfl, show (2 : Int32).toInt = 2 from rfl, show (3 : Int32).toInt = 3 from rfl, show (4 : Int32).toInt = 4 from rfl, show (5 : Int32).toInt = 5 from rfl, show (6 : Int32).toInt = 6 from rfl] at *
  omega
theorem own_de_6 (c0 c1 c2 c3 c4 c5 : Int32) : own_de 6 c0 c1 c2 c3 c4 c5 = 6 := by unfold own_de; rw [if_neg (by decide)]
theorem own_stp_6 (c0 c1 c2 c3 c4 c5 : Int32) : own_stp 6 c0 c1 c2 c3 c4 c5 = 6 := by simp [own_stp]
theorem own_de_5 (c0 c1 c2 c3 c4 c5 : Int32) : own_de 5 c0 c1 c2 c3 c4 c5 = (if own_dg c5 = 0 then 5 else 6) := by simp [own_de, own_get6, own_dgeq]
theorem own_stp_5 (c0 c1 c2 c3 c4 c5 : Int32) : own_stp 5 c0 c1 c2 c3 c4 c5 = (if own_dg c5 = 0 then 5 else 6) := by simp [own_stp, own_get6]
theorem own_de_4 (c0 c1 c2 c3 c4 c5 : Int32) : own_de 4 c0 c1 c2 c3 c4 c5 = (if own_dg c4 = 0 then 4 else if own_dg c5 = 0 then 5 else 6) := by simp [own_de, own_get6, own_dgeq]
theorem own_stp_4 (c0 c1 c2 c3 c4 c5 : Int32) : own_stp 4 c0 c1 c2 c3 c4 c5 = (if own_dg c4 = 0 then 4 else 5) := by simp [own_stp, own_get6]
theorem own_de_3 (c0 c1 c2 c3 c4 c5 : Int32) : own_de 3 c0 c1 c2 c3 c4 c5 = (if own_dg c3 = 0 then 3 else if own_dg c4 = 0 then 4 else if own_dg c5 = 0 then 5 else 6) := by simp [own_de, own_get6, own_dgeq]
theorem own_stp_3 (c0 c1 c2 c3 c4 c5 : Int32) : own_stp 3 c0 c1 c2 c3 c4 c5 = (if own_dg c3 = 0 then 3 else 4) := by simp [own_stp, own_get6]
theorem own_de_2 (c0 c1 c2 c3 c4 c5 : Int32) : own_de 2 c0 c1 c2 c3 c4 c5 = (if own_dg c2 = 0 then 2 else if own_dg c3 = 0 then 3 else if own_dg c4 = 0 then 4 else if own_dg c5 = 0 then 5 else 6) := by simp [own_de, own_get6, own_dgeq]
theorem own_stp_2 (c0 c1 c2 c3 c4 c5 : Int32) : own_stp 2 c0 c1 c2 c3 c4 c5 = (if own_dg c2 = 0 then 2 else 3) := by simp [own_stp, own_get6]
theorem own_de_1 (c0 c1 c2 c3 c4 c5 : Int32) : own_de 1 c0 c1 c2 c3 c4 c5 = (if own_dg c1 = 0 then 1 else if own_dg c2 = 0 then 2 else if own_dg c3 = 0 then 3 else if own_dg c4 = 0 then 4 else if own_dg c5 = 0 then 5 else 6) := by simp [own_de, own_get6, own_dgeq]
theorem own_stp_1 (c0 c1 c2 c3 c4 c5 : Int32) : own_stp 1 c0 c1 c2 c3 c4 c5 = (if own_dg c1 = 0 then 1 else 2) := by simp [own_stp, own_get6]
theorem own_de_0 (c0 c1 c2 c3 c4 c5 : Int32) : own_de 0 c0 c1 c2 c3 c4 c5 = (if own_dg c0 = 0 then 0 else if own_dg c1 = 0 then 1 else if own_dg c2 = 0 then 2 else if own_dg c3 = 0 then 3 else if own_dg c4 = 0 then 4 else if own_dg c5 = 0 then 5 else 6) := by simp [own_de, own_get6, own_dgeq]
theorem own_stp_0 (c0 c1 c2 c3 c4 c5 : Int32) : own_stp 0 c0 c1 c2 c3 c4 c5 = (if own_dg c0 = 0 then 0 else 1) := by simp [own_stp, own_get6]
theorem own_de_rng (p c0 c1 c2 c3 c4 c5 : Int32) (h0 : ¬ p < 0) (h6 : ¬ (6 : Int32) < p) : ¬ (own_de p c0 c1 c2 c3 c4 c5 < (0 : Int32)) ∧ ¬ ((6 : Int32) < own_de p c0 c1 c2 c3 c4 c5) := by
  rcases own_sev p h0 h6 with rfl | rfl | rfl | rfl | rfl | rfl | rfl <;> simp only [own_de_0, own_de_1, own_de_2, own_de_3, own_de_4, own_de_5, own_de_6] <;> repeat' (first | decide | split)
theorem pd_3 : parseMethodDescriptor "(Ljava/lang/String;I)I" = some ⟨[(.object "java/lang/String"), .int], some .int⟩ := by decide +kernel
theorem d6_0 : decode prog_13_method_2_code 0 = .ok (.aload_n 0, 1) := by decide +kernel
theorem d6_1 : decode prog_13_method_2_code 1 = .ok (.iload_n 1, 1) := by decide +kernel
theorem d6_2 : decode prog_13_method_2_code 2 = .ok (.invokestatic 7, 3) := by decide +kernel
theorem d6_5 : decode prog_13_method_2_code 5 = .ok (.istore_n 2, 1) := by decide +kernel
theorem d6_6 : decode prog_13_method_2_code 6 = .ok (.iload_n 2, 1) := by decide +kernel
theorem d6_7 : decode prog_13_method_2_code 7 = .ok (.iconst 1, 1) := by decide +kernel
theorem d6_8 : decode prog_13_method_2_code 8 = .ok (.iadd, 1) := by decide +kernel
theorem d6_9 : decode prog_13_method_2_code 9 = .ok (.aload_n 0, 1) := by decide +kernel
theorem d6_10 : decode prog_13_method_2_code 10 = .ok (.invokevirtual 13, 3) := by decide +kernel
theorem d6_13 : decode prog_13_method_2_code 13 = .ok (.if_icmp .ge 34, 3) := by decide +kernel
theorem d6_16 : decode prog_13_method_2_code 16 = .ok (.aload_n 0, 1) := by decide +kernel
theorem d6_17 : decode prog_13_method_2_code 17 = .ok (.iload_n 2, 1) := by decide +kernel
theorem d6_18 : decode prog_13_method_2_code 18 = .ok (.invokevirtual 19, 3) := by decide +kernel
theorem d6_21 : decode prog_13_method_2_code 21 = .ok (.bipush 46, 2) := by decide +kernel
theorem d6_23 : decode prog_13_method_2_code 23 = .ok (.if_icmp .ne 24, 3) := by decide +kernel
theorem d6_26 : decode prog_13_method_2_code 26 = .ok (.aload_n 0, 1) := by decide +kernel
theorem d6_27 : decode prog_13_method_2_code 27 = .ok (.iload_n 2, 1) := by decide +kernel
theorem d6_28 : decode prog_13_method_2_code 28 = .ok (.iconst 1, 1) := by decide +kernel
theorem d6_29 : decode prog_13_method_2_code 29 = .ok (.iadd, 1) := by decide +kernel
theorem d6_30 : decode prog_13_method_2_code 30 = .ok (.invokevirtual 19, 3) := by decide +kernel
theorem d6_33 : decode prog_13_method_2_code 33 = .ok (.invokestatic 23, 3) := by decide +kernel
theorem d6_36 : decode prog_13_method_2_code 36 = .ok (.ifCond .eq 11, 3) := by decide +kernel
theorem d6_39 : decode prog_13_method_2_code 39 = .ok (.aload_n 0, 1) := by decide +kernel
theorem d6_40 : decode prog_13_method_2_code 40 = .ok (.iload_n 2, 1) := by decide +kernel
theorem d6_41 : decode prog_13_method_2_code 41 = .ok (.iconst 1, 1) := by decide +kernel
theorem d6_42 : decode prog_13_method_2_code 42 = .ok (.iadd, 1) := by decide +kernel
theorem d6_43 : decode prog_13_method_2_code 43 = .ok (.invokestatic 7, 3) := by decide +kernel
theorem d6_46 : decode prog_13_method_2_code 46 = .ok (.istore_n 2, 1) := by decide +kernel
theorem d6_47 : decode prog_13_method_2_code 47 = .ok (.iload_n 2, 1) := by decide +kernel
theorem d6_48 : decode prog_13_method_2_code 48 = .ok (.ireturn, 1) := by decide +kernel
theorem ef_6 (m : MethodId) (a6_0 : Addr) (p6_1 : Int32) : entryFrame m #[(.ref a6_0), (.int p6_1)] 3 = mkF m 0 #[.val (.ref a6_0), .val (.int p6_1), .unset] [] := by first | (simp [entryFrame, mkF, argsToLocals, Value.category]; done) | rfl
def own_ne (p6_1 : Int32) (c0 : Int32) (c1 : Int32) (c2 : Int32) (c3 : Int32) (c4 : Int32) (c5 : Int32) : Int32 := (if ((own_de p6_1 c0 c1 c2 c3 c4 c5) + (1 : Int32)) < (6 : Int32) then (if (own_get6 c0 c1 c2 c3 c4 c5 (own_de p6_1 c0 c1 c2 c3 c4 c5)) = (46 : Int32) then (if (own_dg2 (own_get6 c0 c1 c2 c3 c4 c5 ((own_de p6_1 c0 c1 c2 c3 c4 c5) + (1 : Int32)))) = (0 : Int32) then (own_de p6_1 c0 c1 c2 c3 c4 c5) else (own_de ((own_de p6_1 c0 c1 c2 c3 c4 c5) + (1 : Int32)) c0 c1 c2 c3 c4 c5)) else (own_de p6_1 c0 c1 c2 c3 c4 c5)) else (own_de p6_1 c0 c1 c2 c3 c4 c5))
def Q6 (Z : State) (a6_0 : Addr) (p6_1 : Int32) (tt : Addr) (kk : ClassId) (cs : Int32) (fm : Value) (c0 : Int32) (c1 : Int32) (c2 : Int32) (c3 : Int32) (c4 : Int32) (c5 : Int32) (h0 : Heap) (n0 : Nat) (v : Option Value) (h : Heap) (L : List Loc) : Prop := v = some (.int (own_ne p6_1 c0 c1 c2 c3 c4 c5)) ∧ Fr n0 L ∧ h = h0
set_option maxRecDepth 65536 in
set_option maxHeartbeats 40000000 in
theorem rm6 (l : Launch) (Z : State) (a0 : Array Value) (hw : ∀ d ∈ tables_1, d.before a0 Z = true) (ws : List Jvm.Cond) (a6_0 : Addr) (p6_1 : Int32) (tt : Addr) (kk : ClassId) (cs : Int32) (fm : Value) (c0 : Int32) (c1 : Int32) (c2 : Int32) (c3 : Int32) (c4 : Int32) (c5 : Int32) (h0 : Heap) (n0 : Nat) (Z0 : n0 ≤ h0.size) (Es : Exa Z h0 a6_0 "java/lang/String") (Fv : Fld Z h0 a6_0 "java/lang/String" "value" "[B" (.ref tt)) (Fc : Fld Z h0 a6_0 "java/lang/String" "coder" "B" (.int (0 : Int32))) (Vb : Arv Z h0 tt kk .byte (6 : Int32) (List.map Value.int (List.map (fun c => c.toInt8.toInt32) ([c0, c1, c2, c3, c4, c5] : List Int32))) (.int (0 : Int32))) (Sc : Sta Z h0 "java/lang/String" "COMPACT_STRINGS" "Z" (.int cs)) (Sf : Sta Z h0 "jdk/internal/util/Preconditions" "SIOOBE_FORMATTER" "Ljava/util/function/BiFunction;" fm) (hq0 : ¬ (p6_1 < (0 : Int32))) (hq6 : ¬ ((6 : Int32) < p6_1)) (hcs : ¬ (cs = (0 : Int32))) (hfm : fm.isRef = true) (hp : ∀ c ∈ ([c0, c1, c2, c3, c4, c5] : List Int32), ¬ c < 0 ∧ ¬ (255 : Int32) < c) :
    MetFree l (⟨"com/example/oyster/oyster/engine/Literals", "numberEnd", "(Ljava/lang/String;I)I"⟩ : MethodName) (head1 (Jvm.Cond.code (⟨"com/example/oyster/oyster/engine/Literals", "numberEnd", "(Ljava/lang/String;I)I"⟩ : MethodName) prog_13_method_2_code 3 (some .int) :: ws) ({ frames := 5, cells := 0, slots := 0, locals := 66 } : Room)) (fun a U => a = #[(.ref a6_0), (.int p6_1)] ∧ Z.Warmed39 U.vm ∧ U.heap = h0) (fun _ _ _ _ _ => True) (fun _ U o U' => ∃ v L, o = .returned v ∧ Q6 Z a6_0 p6_1 tt kk cs fm c0 c1 c2 c3 c4 c5 h0 n0 v U'.heap L ∧ FrameEnd U o U' L ({ frames := 5, cells := 0, slots := 0, locals := 66 } : Room).cells ({ frames := 5, cells := 0, slots := 0, locals := 66 } : Room).slots) := by
  refine MetFree.of_bodySF (plainFor_of_name pn_1) hisR ?_
  intro p e s m args below meth c s₁ Bd hml0 hP hK
  obtain ⟨rfl, hZ, hh⟩ := hP
  have hx := Bd.exec
  have hby := Bd.bytes
  have hml : c.maxLocals = 3 := hml0
  have hown : s.vm.findClass "com/example/oyster/oyster/engine/Literals" = some m.cls := findClass_of_methodNamed Bd.named
  have hnm := (name_of_methodNamed Bd.named Bd.method).1
  have X0 : Stand p l e ({ frames := 5, cells := 0, slots := 0, locals := 66 } : Room) s m #[(.ref a6_0), (.int p6_1)] below meth c s₁ [] 0 0 := Stand.of_body Bd
  have e0 : s₁.heap = h0 := by rw [← hh, Bd.state]; rfl
  have N0 := Fr.nil n0
  have pre0 : ∀ t, Steps p.tables e below (s₁.setTop (mkF m 0 #[.val (.ref a6_0), .val (.int p6_1), .unset] [])) t → Steps p.tables e below (s₁.setTop (entryFrame m #[(.ref a6_0), (.int p6_1)] 3)) t := fun t k => castTop (ef_6 m a6_0 p6_1) k
  obtain ⟨_, _, ⟨T1, L1, k1, n1⟩, -, X1, ⟨Lc1, hQ1, l1, y1, z1⟩, st1⟩ := Jvm.LawKit.callS X0 hx (y := (⟨"com/example/oyster/oyster/engine/Literals", "digitsEnd", "(Ljava/lang/String;I)I"⟩ : MethodName)) hown (mvT hZ (hw _ (List.mem_of_getElem? (i := 47) rfl))) (mvT hZ (hw _ (List.mem_of_getElem? (i := 48) rfl))) (mvT hZ (hw _ (List.mem_of_getElem? (i := 45) rfl))) (mvT hZ (hw _ (List.mem_of_getElem? (i := 49) rfl))) (by decide) (backOf (W := 0) (rm5 l Z a0 hw [] a6_0 p6_1 tt kk cs fm c0 c1 c2 c3 c4 c5 h0 n0 Z0 Es Fv Fc Vb Sc Sf hq0 hcs hfm hp) hZ (hw _ (List.mem_of_getElem? (i := 49) rfl)) (hw _ (List.mem_of_getElem? (i := 45) rfl)) (by decide) (by decide)) (g := (mkF m 2 #[.val (.ref a6_0), .val (.int p6_1), .unset] [(.int p6_1), (.ref a6_0)])) rfl (by rw [hml]; rfl) (argsL := [(.ref a6_0), (.int p6_1)]) (rest := []) (lenOf pd_3 rfl) rfl (by show 2 * 0 + _ ≤ _; exact Nat.le_of_eq rfl) (hb hby d6_2) (fun _ _ => ⟨rfl, e0, (by decide : 0 + 0 ≤ _), (by decide : 0 + 0 ≤ _)⟩)
  dsimp only [Pt.U, Pt.locs, Pt.cells, Pt.slots] at X1 l1 y1 z1 st1 hQ1
  rw [l1, y1, z1] at X1
  obtain ⟨rfl, N1q, eh1⟩ := hQ1
  have N1 := Fr.app N0 N1q
  obtain ⟨cq2, kq2, q2a, q2b, q2c⟩ := isOf hZ eh1 Es
  obtain ⟨_, _, ⟨T2, L2, k2, n2⟩, -, X2, ⟨Lc2, hQ2, l2, y2, z2⟩, st2⟩ := X1.virtualBack hx (y := (⟨"java/lang/String", "length", "()I"⟩ : MethodName)) (z := (⟨"java/lang/String", "length", "()I"⟩ : MethodName)) hown (mvT hZ (hw _ (List.mem_of_getElem? (i := 50) rfl))) (mvT hZ (hw _ (List.mem_of_getElem? (i := 51) rfl))) (notFace_of_selects (args := #[]) (mvT hZ (hw _ (List.mem_of_getElem? (i := 53) rfl)))) (mvT hZ (hw _ (List.mem_of_getElem? (i := 53) rfl))) (mvT hZ (hw _ (List.mem_of_getElem? (i := 52) rfl))) (by decide) (StrChars.Road.lenW (W := 1) hZ (fun d hd => hw d (own_sub_lenW d hd)) (kI := 4) (hw _ (List.mem_of_getElem? (i := 9) rfl)) Es Fv Fc Vb (StrChars.Road.codOf rfl (fun c hc => (hp c hc).2)) (own_u16 hp) Sc hcs (Nat.le_of_ble_eq_true rfl) (by decide) (by decide)) q2a q2c (g := (mkF m 10 #[.val (.ref a6_0), .val (.int p6_1), .val (.int (own_de p6_1 c0 c1 c2 c3 c4 c5))] [(.ref a6_0), (.int ((own_de p6_1 c0 c1 c2 c3 c4 c5) + (1 : Int32)))])) rfl (by rw [hml]; rfl) (Steps.refl _) (argsL := []) (rest := [(.int ((own_de p6_1 c0 c1 c2 c3 c4 c5) + (1 : Int32)))]) (lenOf pd_1 rfl) rfl (by show 2 * 0 + _ ≤ _; exact Nat.le_of_eq rfl) (hb hby d6_10) (fun _ _ => ⟨rfl, eh1, (by decide : 0 + 0 ≤ _), (by decide : 0 + 0 ≤ _)⟩)
  dsimp only [Pt.U, Pt.locs, Pt.cells, Pt.slots] at X2 l2 y2 z2 st2 hQ2
  rw [l2, y2, z2] at X2
  obtain ⟨rfl, rfl, eh2⟩ := hQ2
  have N2 := Fr.app N1 (Fr.nil n0)
  have k3 : ∀ t, Steps p.tables e below (T2.setTop (mkF m 13 #[.val (.ref a6_0), .val (.int p6_1), .val (.int (own_de p6_1 c0 c1 c2 c3 c4 c5))] [(.int (6 : Int32)), (.int ((own_de p6_1 c0 c1 c2 c3 c4 c5) + (1 : Int32)))])) t → Steps p.tables e below (s₁.setTop (entryFrame m #[(.ref a6_0), (.int p6_1)] 3)) t := by
    intro t k
    refine pre0 t ?_
    show Steps p.tables e below (s₁.setTop (mkF m 0 #[.val (.ref a6_0), .val (.int p6_1), .unset] [])) _
    refine XS.aloadN X0.here hx rfl (hb hby d6_0) rfl rfl ?_
    show Steps p.tables e below (s₁.setTop (mkF m 1 #[.val (.ref a6_0), .val (.int p6_1), .unset] [(.ref a6_0)])) _
    refine XS.iloadN X0.here hx rfl (hb hby d6_1) rfl ?_
    show Steps p.tables e below (s₁.setTop (mkF m 2 #[.val (.ref a6_0), .val (.int p6_1), .unset] [(.int p6_1), (.ref a6_0)])) _
    refine st1 _ ?_
    show Steps p.tables e below (T1.setTop (mkF m 5 #[.val (.ref a6_0), .val (.int p6_1), .unset] [(.int (own_de p6_1 c0 c1 c2 c3 c4 c5))])) _
    refine XS.istoreN X1.here hx rfl (hb hby d6_5) rfl (l' := #[.val (.ref a6_0), .val (.int p6_1), .val (.int (own_de p6_1 c0 c1 c2 c3 c4 c5))]) rfl ?_
    show Steps p.tables e below (T1.setTop (mkF m 6 #[.val (.ref a6_0), .val (.int p6_1), .val (.int (own_de p6_1 c0 c1 c2 c3 c4 c5))] [])) _
    refine XS.iloadN X1.here hx rfl (hb hby d6_6) rfl ?_
    show Steps p.tables e below (T1.setTop (mkF m 7 #[.val (.ref a6_0), .val (.int p6_1), .val (.int (own_de p6_1 c0 c1 c2 c3 c4 c5))] [(.int (own_de p6_1 c0 c1 c2 c3 c4 c5))])) _
    refine XS.iconst X1.here hx rfl (hb hby d6_7) ?_
    show Steps p.tables e below (T1.setTop (mkF m 8 #[.val (.ref a6_0), .val (.int p6_1), .val (.int (own_de p6_1 c0 c1 c2 c3 c4 c5))] [(.int (1 : Int32)), (.int (own_de p6_1 c0 c1 c2 c3 c4 c5))])) _
    refine XS.iadd X1.here hx rfl (hb hby d6_8) rfl ?_
    show Steps p.tables e below (T1.setTop (mkF m 9 #[.val (.ref a6_0), .val (.int p6_1), .val (.int (own_de p6_1 c0 c1 c2 c3 c4 c5))] [(.int ((own_de p6_1 c0 c1 c2 c3 c4 c5) + (1 : Int32)))])) _
    refine XS.aloadN X1.here hx rfl (hb hby d6_9) rfl rfl ?_
    show Steps p.tables e below (T1.setTop (mkF m 10 #[.val (.ref a6_0), .val (.int p6_1), .val (.int (own_de p6_1 c0 c1 c2 c3 c4 c5))] [(.ref a6_0), (.int ((own_de p6_1 c0 c1 c2 c3 c4 c5) + (1 : Int32)))])) _
    refine st2.trans ?_
    exact k
  by_cases hc13_4 : ((own_de p6_1 c0 c1 c2 c3 c4 c5) + (1 : Int32)) < (6 : Int32)
  · skip
    obtain ⟨cq5, kq5, q5a, q5b, q5c⟩ := isOf hZ eh2 Es
    obtain ⟨_, _, ⟨T5, L5, k5, n5⟩, -, X5, ⟨Lc5, hQ5, l5, y5, z5⟩, st5⟩ := X2.virtualBack hx (y := (⟨"java/lang/String", "charAt", "(I)C"⟩ : MethodName)) (z := (⟨"java/lang/String", "charAt", "(I)C"⟩ : MethodName)) hown (mvT hZ (hw _ (List.mem_of_getElem? (i := 60) rfl))) (mvT hZ (hw _ (List.mem_of_getElem? (i := 61) rfl))) (notFace_of_selects (args := #[]) (mvT hZ (hw _ (List.mem_of_getElem? (i := 63) rfl)))) (mvT hZ (hw _ (List.mem_of_getElem? (i := 63) rfl))) (mvT hZ (hw _ (List.mem_of_getElem? (i := 62) rfl))) (by decide) (StrChars.Road.chN (W := 0) hZ (fun d hd => hw d (own_sub_chN d hd)) (kI := 4) (hw _ (List.mem_of_getElem? (i := 9) rfl)) Es Fv Fc Vb (StrChars.Road.codOf rfl (fun c hc => (hp c hc).2)) (own_u16 hp) Sc hcs Sf hfm (Nat.le_of_ble_eq_true rfl) (i := ((own_de p6_1 c0 c1 c2 c3 c4 c5)).toNatClampNeg) (own_ilt (own_de_rng _ _ _ _ _ _ _ hq0 hq6).1 (own_l6 _ (own_de_rng _ _ _ _ _ _ _ hq0 hq6).1 (own_de_rng _ _ _ _ _ _ _ hq0 hq6).2 hc13_4)) (j := (own_de p6_1 c0 c1 c2 c3 c4 c5)) (own_ofn _ (own_de_rng _ _ _ _ _ _ _ hq0 hq6).1) (by decide) (by decide)) q5a q5c (g := (mkF m 18 #[.val (.ref a6_0), .val (.int p6_1), .val (.int (own_de p6_1 c0 c1 c2 c3 c4 c5))] [(.int (own_de p6_1 c0 c1 c2 c3 c4 c5)), (.ref a6_0)])) rfl (by rw [hml]; rfl) (Steps.refl _) (argsL := [(.int (own_de p6_1 c0 c1 c2 c3 c4 c5))]) (rest := []) (lenOf pd_2 rfl) rfl (by show 2 * 0 + _ ≤ _; exact Nat.le_of_eq rfl) (hb hby d6_18) (fun _ _ => ⟨rfl, eh2, (by decide : 0 + 0 ≤ _), (by decide : 0 + 0 ≤ _)⟩)
    dsimp only [Pt.U, Pt.locs, Pt.cells, Pt.slots] at X5 l5 y5 z5 st5 hQ5
    rw [l5, y5, z5] at X5
    rw [own_getD6 _ _ _ _ _ _ _ (own_de_rng _ _ _ _ _ _ _ hq0 hq6).1 (own_l6 _ (own_de_rng _ _ _ _ _ _ _ hq0 hq6).1 (own_de_rng _ _ _ _ _ _ _ hq0 hq6).2 hc13_4)] at hQ5
    obtain ⟨rfl, rfl, eh5⟩ := hQ5
    have N5 := Fr.app N2 (Fr.nil n0)
    have k6 : ∀ t, Steps p.tables e below (T5.setTop (mkF m 23 #[.val (.ref a6_0), .val (.int p6_1), .val (.int (own_de p6_1 c0 c1 c2 c3 c4 c5))] [(.int (46 : Int32)), (.int (own_get6 c0 c1 c2 c3 c4 c5 (own_de p6_1 c0 c1 c2 c3 c4 c5)))])) t → Steps p.tables e below (s₁.setTop (entryFrame m #[(.ref a6_0), (.int p6_1)] 3)) t := by
      intro t k
      refine k3 t ?_
      show Steps p.tables e below (T2.setTop (mkF m 13 #[.val (.ref a6_0), .val (.int p6_1), .val (.int (own_de p6_1 c0 c1 c2 c3 c4 c5))] [(.int (6 : Int32)), (.int ((own_de p6_1 c0 c1 c2 c3 c4 c5) + (1 : Int32)))])) _
      refine XS.icmpNo X2.here hx rfl (hb hby d6_13) rfl (tlt hc13_4).2.1 ?_
      show Steps p.tables e below (T2.setTop (mkF m 16 #[.val (.ref a6_0), .val (.int p6_1), .val (.int (own_de p6_1 c0 c1 c2 c3 c4 c5))] [])) _
      refine XS.aloadN X2.here hx rfl (hb hby d6_16) rfl rfl ?_
      show Steps p.tables e below (T2.setTop (mkF m 17 #[.val (.ref a6_0), .val (.int p6_1), .val (.int (own_de p6_1 c0 c1 c2 c3 c4 c5))] [(.ref a6_0)])) _
      refine XS.iloadN X2.here hx rfl (hb hby d6_17) rfl ?_
      show Steps p.tables e below (T2.setTop (mkF m 18 #[.val (.ref a6_0), .val (.int p6_1), .val (.int (own_de p6_1 c0 c1 c2 c3 c4 c5))] [(.int (own_de p6_1 c0 c1 c2 c3 c4 c5)), (.ref a6_0)])) _
      refine st5.trans ?_
      show Steps p.tables e below (T5.setTop (mkF m 21 #[.val (.ref a6_0), .val (.int p6_1), .val (.int (own_de p6_1 c0 c1 c2 c3 c4 c5))] [(.int (own_get6 c0 c1 c2 c3 c4 c5 (own_de p6_1 c0 c1 c2 c3 c4 c5)))])) _
      refine XS.bipush X5.here hx rfl (hb hby d6_21) ?_
      exact k
    by_cases hc23_7 : (own_get6 c0 c1 c2 c3 c4 c5 (own_de p6_1 c0 c1 c2 c3 c4 c5)) = (46 : Int32)
    · skip
      obtain ⟨cq8, kq8, q8a, q8b, q8c⟩ := isOf hZ eh5 Es
      obtain ⟨_, _, ⟨T8, L8, k8, n8⟩, -, X8, ⟨Lc8, hQ8, l8, y8, z8⟩, st8⟩ := X5.virtualBack hx (y := (⟨"java/lang/String", "charAt", "(I)C"⟩ : MethodName)) (z := (⟨"java/lang/String", "charAt", "(I)C"⟩ : MethodName)) hown (mvT hZ (hw _ (List.mem_of_getElem? (i := 60) rfl))) (mvT hZ (hw _ (List.mem_of_getElem? (i := 61) rfl))) (notFace_of_selects (args := #[]) (mvT hZ (hw _ (List.mem_of_getElem? (i := 63) rfl)))) (mvT hZ (hw _ (List.mem_of_getElem? (i := 63) rfl))) (mvT hZ (hw _ (List.mem_of_getElem? (i := 62) rfl))) (by decide) (StrChars.Road.chN (W := 0) hZ (fun d hd => hw d (own_sub_chN d hd)) (kI := 4) (hw _ (List.mem_of_getElem? (i := 9) rfl)) Es Fv Fc Vb (StrChars.Road.codOf rfl (fun c hc => (hp c hc).2)) (own_u16 hp) Sc hcs Sf hfm (Nat.le_of_ble_eq_true rfl) (i := (((own_de p6_1 c0 c1 c2 c3 c4 c5) + (1 : Int32))).toNatClampNeg) (own_ilt (own_nn _ (own_de_rng _ _ _ _ _ _ _ hq0 hq6).1 (own_l6 _ (own_de_rng _ _ _ _ _ _ _ hq0 hq6).1 (own_de_rng _ _ _ _ _ _ _ hq0 hq6).2 hc13_4)).1 hc13_4) (j := ((own_de p6_1 c0 c1 c2 c3 c4 c5) + (1 : Int32))) (own_ofn _ (own_nn _ (own_de_rng _ _ _ _ _ _ _ hq0 hq6).1 (own_l6 _ (own_de_rng _ _ _ _ _ _ _ hq0 hq6).1 (own_de_rng _ _ _ _ _ _ _ hq0 hq6).2 hc13_4)).1) (by decide) (by decide)) q8a q8c (g := (mkF m 30 #[.val (.ref a6_0), .val (.int p6_1), .val (.int (own_de p6_1 c0 c1 c2 c3 c4 c5))] [(.int ((own_de p6_1 c0 c1 c2 c3 c4 c5) + (1 : Int32))), (.ref a6_0)])) rfl (by rw [hml]; rfl) (Steps.refl _) (argsL := [(.int ((own_de p6_1 c0 c1 c2 c3 c4 c5) + (1 : Int32)))]) (rest := []) (lenOf pd_2 rfl) rfl (by show 2 * 0 + _ ≤ _; exact Nat.le_of_eq rfl) (hb hby d6_30) (fun _ _ => ⟨rfl, eh5, (by decide : 0 + 0 ≤ _), (by decide : 0 + 0 ≤ _)⟩)
      dsimp only [Pt.U, Pt.locs, Pt.cells, Pt.slots] at X8 l8 y8 z8 st8 hQ8
      rw [l8, y8, z8] at X8
      rw [own_getD6 _ _ _ _ _ _ _ (own_nn _ (own_de_rng _ _ _ _ _ _ _ hq0 hq6).1 (own_l6 _ (own_de_rng _ _ _ _ _ _ _ hq0 hq6).1 (own_de_rng _ _ _ _ _ _ _ hq0 hq6).2 hc13_4)).1 hc13_4] at hQ8
      obtain ⟨rfl, rfl, eh8⟩ := hQ8
      have N8 := Fr.app N5 (Fr.nil n0)
      obtain ⟨_, _, ⟨T9, L9, k9, n9⟩, -, X9, ⟨Lc9, hQ9, l9, y9, z9⟩, st9⟩ := Jvm.LawKit.callS X8 hx (y := (⟨"com/example/oyster/oyster/engine/Literals", "isDigit", "(C)Z"⟩ : MethodName)) hown (mvT hZ (hw _ (List.mem_of_getElem? (i := 82) rfl))) (mvT hZ (hw _ (List.mem_of_getElem? (i := 83) rfl))) (mvT hZ (hw _ (List.mem_of_getElem? (i := 45) rfl))) (mvT hZ (hw _ (List.mem_of_getElem? (i := 84) rfl))) (by decide) (backOf (W := 0) (rm3 l Z a0 hw [] (own_get6 c0 c1 c2 c3 c4 c5 ((own_de p6_1 c0 c1 c2 c3 c4 c5) + (1 : Int32))) h0 n0 Z0 ) hZ (hw _ (List.mem_of_getElem? (i := 84) rfl)) (hw _ (List.mem_of_getElem? (i := 45) rfl)) (by decide) (by decide)) (g := (mkF m 33 #[.val (.ref a6_0), .val (.int p6_1), .val (.int (own_de p6_1 c0 c1 c2 c3 c4 c5))] [(.int (own_get6 c0 c1 c2 c3 c4 c5 ((own_de p6_1 c0 c1 c2 c3 c4 c5) + (1 : Int32))))])) rfl (by rw [hml]; rfl) (argsL := [(.int (own_get6 c0 c1 c2 c3 c4 c5 ((own_de p6_1 c0 c1 c2 c3 c4 c5) + (1 : Int32))))]) (rest := []) (lenOf pd_0 rfl) rfl (by show 2 * 0 + _ ≤ _; exact Nat.le_of_eq rfl) (hb hby d6_33) (fun _ _ => ⟨rfl, eh8, (by decide : 0 + 0 ≤ _), (by decide : 0 + 0 ≤ _)⟩)
      dsimp only [Pt.U, Pt.locs, Pt.cells, Pt.slots] at X9 l9 y9 z9 st9 hQ9
      rw [l9, y9, z9] at X9
      obtain ⟨rfl, N9q, eh9⟩ := hQ9
      have N9 := Fr.app N8 N9q
      have k10 : ∀ t, Steps p.tables e below (T9.setTop (mkF m 36 #[.val (.ref a6_0), .val (.int p6_1), .val (.int (own_de p6_1 c0 c1 c2 c3 c4 c5))] [(.int (own_dg2 (own_get6 c0 c1 c2 c3 c4 c5 ((own_de p6_1 c0 c1 c2 c3 c4 c5) + (1 : Int32)))))])) t → Steps p.tables e below (s₁.setTop (entryFrame m #[(.ref a6_0), (.int p6_1)] 3)) t := by
        intro t k
        refine k6 t ?_
        show Steps p.tables e below (T5.setTop (mkF m 23 #[.val (.ref a6_0), .val (.int p6_1), .val (.int (own_de p6_1 c0 c1 c2 c3 c4 c5))] [(.int (46 : Int32)), (.int (own_get6 c0 c1 c2 c3 c4 c5 (own_de p6_1 c0 c1 c2 c3 c4 c5)))])) _
        refine XS.icmpNo X5.here hx rfl (hb hby d6_23) rfl (teq hc23_7).2 ?_
        show Steps p.tables e below (T5.setTop (mkF m 26 #[.val (.ref a6_0), .val (.int p6_1), .val (.int (own_de p6_1 c0 c1 c2 c3 c4 c5))] [])) _
        refine XS.aloadN X5.here hx rfl (hb hby d6_26) rfl rfl ?_
        show Steps p.tables e below (T5.setTop (mkF m 27 #[.val (.ref a6_0), .val (.int p6_1), .val (.int (own_de p6_1 c0 c1 c2 c3 c4 c5))] [(.ref a6_0)])) _
        refine XS.iloadN X5.here hx rfl (hb hby d6_27) rfl ?_
        show Steps p.tables e below (T5.setTop (mkF m 28 #[.val (.ref a6_0), .val (.int p6_1), .val (.int (own_de p6_1 c0 c1 c2 c3 c4 c5))] [(.int (own_de p6_1 c0 c1 c2 c3 c4 c5)), (.ref a6_0)])) _
        refine XS.iconst X5.here hx rfl (hb hby d6_28) ?_
        show Steps p.tables e below (T5.setTop (mkF m 29 #[.val (.ref a6_0), .val (.int p6_1), .val (.int (own_de p6_1 c0 c1 c2 c3 c4 c5))] [(.int (1 : Int32)), (.int (own_de p6_1 c0 c1 c2 c3 c4 c5)), (.ref a6_0)])) _
        refine XS.iadd X5.here hx rfl (hb hby d6_29) rfl ?_
        show Steps p.tables e below (T5.setTop (mkF m 30 #[.val (.ref a6_0), .val (.int p6_1), .val (.int (own_de p6_1 c0 c1 c2 c3 c4 c5))] [(.int ((own_de p6_1 c0 c1 c2 c3 c4 c5) + (1 : Int32))), (.ref a6_0)])) _
        refine st8.trans ?_
        show Steps p.tables e below (T8.setTop (mkF m 33 #[.val (.ref a6_0), .val (.int p6_1), .val (.int (own_de p6_1 c0 c1 c2 c3 c4 c5))] [(.int (own_get6 c0 c1 c2 c3 c4 c5 ((own_de p6_1 c0 c1 c2 c3 c4 c5) + (1 : Int32))))])) _
        refine st9 _ ?_
        exact k
      by_cases hc36_11 : (own_dg2 (own_get6 c0 c1 c2 c3 c4 c5 ((own_de p6_1 c0 c1 c2 c3 c4 c5) + (1 : Int32)))) = (0 : Int32)
      · skip
        have k12 : ∀ t, Steps p.tables e below (T9.setTop (mkF m 48 #[.val (.ref a6_0), .val (.int p6_1), .val (.int (own_de p6_1 c0 c1 c2 c3 c4 c5))] [(.int (own_de p6_1 c0 c1 c2 c3 c4 c5))])) t → Steps p.tables e below (s₁.setTop (entryFrame m #[(.ref a6_0), (.int p6_1)] 3)) t := by
          intro t k
          refine k10 t ?_
          show Steps p.tables e below (T9.setTop (mkF m 36 #[.val (.ref a6_0), .val (.int p6_1), .val (.int (own_de p6_1 c0 c1 c2 c3 c4 c5))] [(.int (own_dg2 (own_get6 c0 c1 c2 c3 c4 c5 ((own_de p6_1 c0 c1 c2 c3 c4 c5) + (1 : Int32)))))])) _
          refine XS.ifYes X9.here hx rfl (pc0 := 36) (pc' := 47) rfl (hb hby d6_36) rfl ((if0 _ _).trans (teq hc36_11).1) (by decide) (by decide) ?_
          show Steps p.tables e below (T9.setTop (mkF m 47 #[.val (.ref a6_0), .val (.int p6_1), .val (.int (own_de p6_1 c0 c1 c2 c3 c4 c5))] [])) _
          refine XS.iloadN X9.here hx rfl (hb hby d6_47) rfl ?_
          exact k
        obtain ⟨fs, hr, hrun, hended, hW, hsame⟩ := X9.leave (v := some (.int (own_de p6_1 c0 c1 c2 c3 c4 c5))) (fun h => by rw [Bd.returns] at h; cases h)
        refine ⟨_, _, k12 _ ?_, hrun, hended, _, _, rfl, ?_, ⟨_, rfl⟩, hW, hsame.mono (by decide) (by decide)⟩
        · exact retI X9 hx Bd.returns (hb hby d6_48) hr
        · show Q6 Z a6_0 p6_1 tt kk cs fm c0 c1 c2 c3 c4 c5 h0 n0 _ T9.heap _
          rw [eh9]
          exact ⟨congrArg (fun z => some (Value.int z)) (show ((own_de p6_1 c0 c1 c2 c3 c4 c5) : Int32) = own_ne p6_1 c0 c1 c2 c3 c4 c5 from by unfold own_ne; rw [if_pos hc13_4, if_pos hc23_7, if_pos hc36_11]), N9, rfl⟩
      · skip
        obtain ⟨_, _, ⟨T13, L13, k13, n13⟩, -, X13, ⟨Lc13, hQ13, l13, y13, z13⟩, st13⟩ := Jvm.LawKit.callS X9 hx (y := (⟨"com/example/oyster/oyster/engine/Literals", "digitsEnd", "(Ljava/lang/String;I)I"⟩ : MethodName)) hown (mvT hZ (hw _ (List.mem_of_getElem? (i := 47) rfl))) (mvT hZ (hw _ (List.mem_of_getElem? (i := 48) rfl))) (mvT hZ (hw _ (List.mem_of_getElem? (i := 45) rfl))) (mvT hZ (hw _ (List.mem_of_getElem? (i := 49) rfl))) (by decide) (backOf (W := 0) (rm5 l Z a0 hw [] a6_0 ((own_de p6_1 c0 c1 c2 c3 c4 c5) + (1 : Int32)) tt kk cs fm c0 c1 c2 c3 c4 c5 h0 n0 Z0 Es Fv Fc Vb Sc Sf (own_nn _ (own_de_rng _ _ _ _ _ _ _ hq0 hq6).1 (own_l6 _ (own_de_rng _ _ _ _ _ _ _ hq0 hq6).1 (own_de_rng _ _ _ _ _ _ _ hq0 hq6).2 hc13_4)).1 hcs hfm hp) hZ (hw _ (List.mem_of_getElem? (i := 49) rfl)) (hw _ (List.mem_of_getElem? (i := 45) rfl)) (by decide) (by decide)) (g := (mkF m 43 #[.val (.ref a6_0), .val (.int p6_1), .val (.int (own_de p6_1 c0 c1 c2 c3 c4 c5))] [(.int ((own_de p6_1 c0 c1 c2 c3 c4 c5) + (1 : Int32))), (.ref a6_0)])) rfl (by rw [hml]; rfl) (argsL := [(.ref a6_0), (.int ((own_de p6_1 c0 c1 c2 c3 c4 c5) + (1 : Int32)))]) (rest := []) (lenOf pd_3 rfl) rfl (by show 2 * 0 + _ ≤ _; exact Nat.le_of_eq rfl) (hb hby d6_43) (fun _ _ => ⟨rfl, eh9, (by decide : 0 + 0 ≤ _), (by decide : 0 + 0 ≤ _)⟩)
        dsimp only [Pt.U, Pt.locs, Pt.cells, Pt.slots] at X13 l13 y13 z13 st13 hQ13
        rw [l13, y13, z13] at X13
        obtain ⟨rfl, N13q, eh13⟩ := hQ13
        have N13 := Fr.app N9 N13q
        have k14 : ∀ t, Steps p.tables e below (T13.setTop (mkF m 48 #[.val (.ref a6_0), .val (.int p6_1), .val (.int (own_de ((own_de p6_1 c0 c1 c2 c3 c4 c5) + (1 : Int32)) c0 c1 c2 c3 c4 c5))] [(.int (own_de ((own_de p6_1 c0 c1 c2 c3 c4 c5) + (1 : Int32)) c0 c1 c2 c3 c4 c5))])) t → Steps p.tables e below (s₁.setTop (entryFrame m #[(.ref a6_0), (.int p6_1)] 3)) t := by
          intro t k
          refine k10 t ?_
          show Steps p.tables e below (T9.setTop (mkF m 36 #[.val (.ref a6_0), .val (.int p6_1), .val (.int (own_de p6_1 c0 c1 c2 c3 c4 c5))] [(.int (own_dg2 (own_get6 c0 c1 c2 c3 c4 c5 ((own_de p6_1 c0 c1 c2 c3 c4 c5) + (1 : Int32)))))])) _
          refine XS.ifNo X9.here hx rfl (hb hby d6_36) rfl ((if0 _ _).trans (feq hc36_11).1) ?_
          show Steps p.tables e below (T9.setTop (mkF m 39 #[.val (.ref a6_0), .val (.int p6_1), .val (.int (own_de p6_1 c0 c1 c2 c3 c4 c5))] [])) _
          refine XS.aloadN X9.here hx rfl (hb hby d6_39) rfl rfl ?_
          show Steps p.tables e below (T9.setTop (mkF m 40 #[.val (.ref a6_0), .val (.int p6_1), .val (.int (own_de p6_1 c0 c1 c2 c3 c4 c5))] [(.ref a6_0)])) _
          refine XS.iloadN X9.here hx rfl (hb hby d6_40) rfl ?_
          show Steps p.tables e below (T9.setTop (mkF m 41 #[.val (.ref a6_0), .val (.int p6_1), .val (.int (own_de p6_1 c0 c1 c2 c3 c4 c5))] [(.int (own_de p6_1 c0 c1 c2 c3 c4 c5)), (.ref a6_0)])) _
          refine XS.iconst X9.here hx rfl (hb hby d6_41) ?_
          show Steps p.tables e below (T9.setTop (mkF m 42 #[.val (.ref a6_0), .val (.int p6_1), .val (.int (own_de p6_1 c0 c1 c2 c3 c4 c5))] [(.int (1 : Int32)), (.int (own_de p6_1 c0 c1 c2 c3 c4 c5)), (.ref a6_0)])) _
          refine XS.iadd X9.here hx rfl (hb hby d6_42) rfl ?_
          show Steps p.tables e below (T9.setTop (mkF m 43 #[.val (.ref a6_0), .val (.int p6_1), .val (.int (own_de p6_1 c0 c1 c2 c3 c4 c5))] [(.int ((own_de p6_1 c0 c1 c2 c3 c4 c5) + (1 : Int32))), (.ref a6_0)])) _
          refine st13 _ ?_
          show Steps p.tables e below (T13.setTop (mkF m 46 #[.val (.ref a6_0), .val (.int p6_1), .val (.int (own_de p6_1 c0 c1 c2 c3 c4 c5))] [(.int (own_de ((own_de p6_1 c0 c1 c2 c3 c4 c5) + (1 : Int32)) c0 c1 c2 c3 c4 c5))])) _
          refine XS.istoreN X13.here hx rfl (hb hby d6_46) rfl (l' := #[.val (.ref a6_0), .val (.int p6_1), .val (.int (own_de ((own_de p6_1 c0 c1 c2 c3 c4 c5) + (1 : Int32)) c0 c1 c2 c3 c4 c5))]) rfl ?_
          show Steps p.tables e below (T13.setTop (mkF m 47 #[.val (.ref a6_0), .val (.int p6_1), .val (.int (own_de ((own_de p6_1 c0 c1 c2 c3 c4 c5) + (1 : Int32)) c0 c1 c2 c3 c4 c5))] [])) _
          refine XS.iloadN X13.here hx rfl (hb hby d6_47) rfl ?_
          exact k
        obtain ⟨fs, hr, hrun, hended, hW, hsame⟩ := X13.leave (v := some (.int (own_de ((own_de p6_1 c0 c1 c2 c3 c4 c5) + (1 : Int32)) c0 c1 c2 c3 c4 c5))) (fun h => by rw [Bd.returns] at h; cases h)
        refine ⟨_, _, k14 _ ?_, hrun, hended, _, _, rfl, ?_, ⟨_, rfl⟩, hW, hsame.mono (by decide) (by decide)⟩
        · exact retI X13 hx Bd.returns (hb hby d6_48) hr
        · show Q6 Z a6_0 p6_1 tt kk cs fm c0 c1 c2 c3 c4 c5 h0 n0 _ T13.heap _
          rw [eh13]
          exact ⟨congrArg (fun z => some (Value.int z)) (show ((own_de ((own_de p6_1 c0 c1 c2 c3 c4 c5) + (1 : Int32)) c0 c1 c2 c3 c4 c5) : Int32) = own_ne p6_1 c0 c1 c2 c3 c4 c5 from by unfold own_ne; rw [if_pos hc13_4, if_pos hc23_7, if_neg hc36_11]), N13, rfl⟩
    · skip
      have k15 : ∀ t, Steps p.tables e below (T5.setTop (mkF m 48 #[.val (.ref a6_0), .val (.int p6_1), .val (.int (own_de p6_1 c0 c1 c2 c3 c4 c5))] [(.int (own_de p6_1 c0 c1 c2 c3 c4 c5))])) t → Steps p.tables e below (s₁.setTop (entryFrame m #[(.ref a6_0), (.int p6_1)] 3)) t := by
        intro t k
        refine k6 t ?_
        show Steps p.tables e below (T5.setTop (mkF m 23 #[.val (.ref a6_0), .val (.int p6_1), .val (.int (own_de p6_1 c0 c1 c2 c3 c4 c5))] [(.int (46 : Int32)), (.int (own_get6 c0 c1 c2 c3 c4 c5 (own_de p6_1 c0 c1 c2 c3 c4 c5)))])) _
        refine XS.icmpYes X5.here hx rfl (pc0 := 23) (pc' := 47) rfl (hb hby d6_23) rfl (feq hc23_7).2 (by decide) (by decide) ?_
        show Steps p.tables e below (T5.setTop (mkF m 47 #[.val (.ref a6_0), .val (.int p6_1), .val (.int (own_de p6_1 c0 c1 c2 c3 c4 c5))] [])) _
        refine XS.iloadN X5.here hx rfl (hb hby d6_47) rfl ?_
        exact k
      obtain ⟨fs, hr, hrun, hended, hW, hsame⟩ := X5.leave (v := some (.int (own_de p6_1 c0 c1 c2 c3 c4 c5))) (fun h => by rw [Bd.returns] at h; cases h)
      refine ⟨_, _, k15 _ ?_, hrun, hended, _, _, rfl, ?_, ⟨_, rfl⟩, hW, hsame.mono (by decide) (by decide)⟩
      · exact retI X5 hx Bd.returns (hb hby d6_48) hr
      · show Q6 Z a6_0 p6_1 tt kk cs fm c0 c1 c2 c3 c4 c5 h0 n0 _ T5.heap _
        rw [eh5]
        exact ⟨congrArg (fun z => some (Value.int z)) (show ((own_de p6_1 c0 c1 c2 c3 c4 c5) : Int32) = own_ne p6_1 c0 c1 c2 c3 c4 c5 from by unfold own_ne; rw [if_pos hc13_4, if_neg hc23_7]), N5, rfl⟩
  · skip
    have k16 : ∀ t, Steps p.tables e below (T2.setTop (mkF m 48 #[.val (.ref a6_0), .val (.int p6_1), .val (.int (own_de p6_1 c0 c1 c2 c3 c4 c5))] [(.int (own_de p6_1 c0 c1 c2 c3 c4 c5))])) t → Steps p.tables e below (s₁.setTop (entryFrame m #[(.ref a6_0), (.int p6_1)] 3)) t := by
      intro t k
      refine k3 t ?_
      show Steps p.tables e below (T2.setTop (mkF m 13 #[.val (.ref a6_0), .val (.int p6_1), .val (.int (own_de p6_1 c0 c1 c2 c3 c4 c5))] [(.int (6 : Int32)), (.int ((own_de p6_1 c0 c1 c2 c3 c4 c5) + (1 : Int32)))])) _
      refine XS.icmpYes X2.here hx rfl (pc0 := 13) (pc' := 47) rfl (hb hby d6_13) rfl (flt hc13_4).2.1 (by decide) (by decide) ?_
      show Steps p.tables e below (T2.setTop (mkF m 47 #[.val (.ref a6_0), .val (.int p6_1), .val (.int (own_de p6_1 c0 c1 c2 c3 c4 c5))] [])) _
      refine XS.iloadN X2.here hx rfl (hb hby d6_47) rfl ?_
      exact k
    obtain ⟨fs, hr, hrun, hended, hW, hsame⟩ := X2.leave (v := some (.int (own_de p6_1 c0 c1 c2 c3 c4 c5))) (fun h => by rw [Bd.returns] at h; cases h)
    refine ⟨_, _, k16 _ ?_, hrun, hended, _, _, rfl, ?_, ⟨_, rfl⟩, hW, hsame.mono (by decide) (by decide)⟩
    · exact retI X2 hx Bd.returns (hb hby d6_48) hr
    · show Q6 Z a6_0 p6_1 tt kk cs fm c0 c1 c2 c3 c4 c5 h0 n0 _ T2.heap _
      rw [eh2]
      exact ⟨congrArg (fun z => some (Value.int z)) (show ((own_de p6_1 c0 c1 c2 c3 c4 c5) : Int32) = own_ne p6_1 c0 c1 c2 c3 c4 c5 from by unfold own_ne; rw [if_neg hc13_4]), N2, rfl⟩
theorem own_st (x : Int32) : ¬ ((x &&& (2147483647 : Int32)) % (6 : Int32)) < (0 : Int32) ∧ ((x &&& (2147483647 : Int32)) % (6 : Int32)) < (6 : Int32) := by
  rcases own_mod6 x with h | h | h | h | h | h <;> rw [h] <;> decide
theorem own_up_rng {x v i j : Int32} (hx : ¬ x < 0 ∧ ¬ (255 : Int32) < x) (hv : ¬ v < 0 ∧ ¬ (255 : Int32) < v) : ¬ own_up x v i j < 0 ∧ ¬ (255 : Int32) < own_up x v i j := by
  unfold own_up; split
  · exact hv
  · exact hx
theorem own_57 {v : Int32} (h : ¬ v < (48 : Int32) ∧ ¬ (57 : Int32) < v) : ¬ v < 0 ∧ ¬ (255 : Int32) < v := by
  simp only [own_lt, show (48 : Int32).toInt = 48 from rfl, show (57 : Int32).toInt = 57 from rfl, show (0 : Int32).toInt = 0 from rfl, show (255 : Int32).toInt = 255 from rfl] at *
  omega
theorem own_dg1 {v : Int32} (h : ¬ v < (48 : Int32) ∧ ¬ (57 : Int32) < v) : ¬ own_dg v = (0 : Int32) := by
  unfold own_dg; rw [if_neg h.1, if_neg h.2]; decide
theorem own_at (x0 x1 x2 x3 x4 x5 v j : Int32) (h0 : ¬ j < 0) (h1 : j < (6 : Int32)) : own_get6 (own_up x0 v 0 j) (own_up x1 v 1 j) (own_up x2 v 2 j) (own_up x3 v 3 j) (own_up x4 v 4 j) (own_up x5 v 5 j) j = v := by
  rcases own_six j h0 h1 with rfl | rfl | rfl | rfl | rfl | rfl <;> rfl
theorem own_stp_rng (p c0 c1 c2 c3 c4 c5 : Int32) (h0 : ¬ p < (0 : Int32)) (h6 : ¬ (6 : Int32) < p) : ¬ (own_stp p c0 c1 c2 c3 c4 c5 < (0 : Int32)) ∧ ¬ ((6 : Int32) < own_stp p c0 c1 c2 c3 c4 c5) := by
  unfold own_stp
  split
  · rename_i h
    split
    · exact ⟨h0, h6⟩
    · have q := own_nn p h0 h
      refine ⟨q.1, ?_⟩
      rw [own_lt, q.2]
      simp only [own_lt, show (6 : Int32).toInt = 6 from rfl] at *
      omega
  · exact ⟨h0, h6⟩
theorem own_p1 (i : Int32) (h0 : ¬ i < (0 : Int32)) (h1 : i < (6 : Int32)) : ¬ ((i + (1 : Int32)) < (0 : Int32)) ∧ ¬ ((6 : Int32) < (i + (1 : Int32))) := by
  have q := own_nn i h0 h1
  refine ⟨q.1, ?_⟩
  rw [own_lt, q.2]
  simp only [own_lt, show (6 : Int32).toInt = 6 from rfl] at *
  omega
theorem own_p2 (i : Int32) (h0 : ¬ i < (0 : Int32)) (h6 : ¬ (6 : Int32) < i) (h1 : (i + (1 : Int32)) < (6 : Int32)) : ¬ ((i + (2 : Int32)) < (0 : Int32)) ∧ ¬ ((6 : Int32) < (i + (2 : Int32))) ∧ (i + (2 : Int32)).toInt = i.toInt + 2 := by
  have q := own_nnm i h0 h6
  have c1 := c_iadd i 2
  have r1 := rng32 (i + 2)
  simp only [own_lt, show (0 : Int32).toInt = 0 from rfl, show (2 : Int32).toInt = 2 from rfl, show (6 : Int32).toInt = 6 from rfl] at *
  omega
theorem own_R0 (c0 c1 c2 c3 c4 c5 : Int32) (hd : ¬ own_dg c0 = (0 : Int32)) : own_de 0 c0 c1 c2 c3 c4 c5 = own_stp (own_stp (own_stp (own_stp (own_stp 1 c0 c1 c2 c3 c4 c5) c0 c1 c2 c3 c4 c5) c0 c1 c2 c3 c4 c5) c0 c1 c2 c3 c4 c5) c0 c1 c2 c3 c4 c5 := by
  rw [own_de_0, if_neg hd]
  by_cases h1 : own_dg c1 = 0
  · simp only [own_stp_1, if_pos h1]
  simp only [own_stp_1, if_neg h1]
  by_cases h2 : own_dg c2 = 0
  · simp only [own_stp_2, if_pos h2]
  simp only [own_stp_2, if_neg h2]
  by_cases h3 : own_dg c3 = 0
  · simp only [own_stp_3, if_pos h3]
  simp only [own_stp_3, if_neg h3]
  by_cases h4 : own_dg c4 = 0
  · simp only [own_stp_4, if_pos h4]
  simp only [own_stp_4, if_neg h4]
  by_cases h5 : own_dg c5 = 0
  · simp only [own_stp_5, if_pos h5]
  simp only [own_stp_5, if_neg h5]
  try simp only [own_stp_6]
theorem own_R1 (c0 c1 c2 c3 c4 c5 : Int32) (hd : ¬ own_dg c1 = (0 : Int32)) : own_de 1 c0 c1 c2 c3 c4 c5 = own_stp (own_stp (own_stp (own_stp (own_stp 2 c0 c1 c2 c3 c4 c5) c0 c1 c2 c3 c4 c5) c0 c1 c2 c3 c4 c5) c0 c1 c2 c3 c4 c5) c0 c1 c2 c3 c4 c5 := by
  rw [own_de_1, if_neg hd]
  by_cases h2 : own_dg c2 = 0
  · simp only [own_stp_2, if_pos h2]
  simp only [own_stp_2, if_neg h2]
  by_cases h3 : own_dg c3 = 0
  · simp only [own_stp_3, if_pos h3]
  simp only [own_stp_3, if_neg h3]
  by_cases h4 : own_dg c4 = 0
  · simp only [own_stp_4, if_pos h4]
  simp only [own_stp_4, if_neg h4]
  by_cases h5 : own_dg c5 = 0
  · simp only [own_stp_5, if_pos h5]
  simp only [own_stp_5, if_neg h5]
  try simp only [own_stp_6]
theorem own_R2 (c0 c1 c2 c3 c4 c5 : Int32) (hd : ¬ own_dg c2 = (0 : Int32)) : own_de 2 c0 c1 c2 c3 c4 c5 = own_stp (own_stp (own_stp (own_stp (own_stp 3 c0 c1 c2 c3 c4 c5) c0 c1 c2 c3 c4 c5) c0 c1 c2 c3 c4 c5) c0 c1 c2 c3 c4 c5) c0 c1 c2 c3 c4 c5 := by
  rw [own_de_2, if_neg hd]
  by_cases h3 : own_dg c3 = 0
  · simp only [own_stp_3, if_pos h3]
  simp only [own_stp_3, if_neg h3]
  by_cases h4 : own_dg c4 = 0
  · simp only [own_stp_4, if_pos h4]
  simp only [own_stp_4, if_neg h4]
  by_cases h5 : own_dg c5 = 0
  · simp only [own_stp_5, if_pos h5]
  simp only [own_stp_5, if_neg h5]
  try simp only [own_stp_6]
theorem own_R3 (c0 c1 c2 c3 c4 c5 : Int32) (hd : ¬ own_dg c3 = (0 : Int32)) : own_de 3 c0 c1 c2 c3 c4 c5 = own_stp (own_stp (own_stp (own_stp (own_stp 4 c0 c1 c2 c3 c4 c5) c0 c1 c2 c3 c4 c5) c0 c1 c2 c3 c4 c5) c0 c1 c2 c3 c4 c5) c0 c1 c2 c3 c4 c5 := by
  rw [own_de_3, if_neg hd]
  by_cases h4 : own_dg c4 = 0
  · simp only [own_stp_4, if_pos h4]
  simp only [own_stp_4, if_neg h4]
  by_cases h5 : own_dg c5 = 0
  · simp only [own_stp_5, if_pos h5]
  simp only [own_stp_5, if_neg h5]
  try simp only [own_stp_6]
theorem own_R4 (c0 c1 c2 c3 c4 c5 : Int32) (hd : ¬ own_dg c4 = (0 : Int32)) : own_de 4 c0 c1 c2 c3 c4 c5 = own_stp (own_stp (own_stp (own_stp (own_stp 5 c0 c1 c2 c3 c4 c5) c0 c1 c2 c3 c4 c5) c0 c1 c2 c3 c4 c5) c0 c1 c2 c3 c4 c5) c0 c1 c2 c3 c4 c5 := by
  rw [own_de_4, if_neg hd]
  by_cases h5 : own_dg c5 = 0
  · simp only [own_stp_5, if_pos h5]
  simp only [own_stp_5, if_neg h5]
  try simp only [own_stp_6]
theorem own_R5 (c0 c1 c2 c3 c4 c5 : Int32) (hd : ¬ own_dg c5 = (0 : Int32)) : own_de 5 c0 c1 c2 c3 c4 c5 = own_stp (own_stp (own_stp (own_stp (own_stp 6 c0 c1 c2 c3 c4 c5) c0 c1 c2 c3 c4 c5) c0 c1 c2 c3 c4 c5) c0 c1 c2 c3 c4 c5) c0 c1 c2 c3 c4 c5 := by
  rw [own_de_5, if_neg hd]
  try simp only [own_stp_6]
theorem own_G0 (c0 c1 c2 c3 c4 c5 : Int32) (hd : ¬ own_dg c1 = (0 : Int32)) : own_de 1 c0 c1 c2 c3 c4 c5 = own_stp (own_stp (own_stp (own_stp 2 c0 c1 c2 c3 c4 c5) c0 c1 c2 c3 c4 c5) c0 c1 c2 c3 c4 c5) c0 c1 c2 c3 c4 c5 := by
  rw [own_de_1, if_neg hd]
  by_cases h2 : own_dg c2 = 0
  · simp only [own_stp_2, if_pos h2]
  simp only [own_stp_2, if_neg h2]
  by_cases h3 : own_dg c3 = 0
  · simp only [own_stp_3, if_pos h3]
  simp only [own_stp_3, if_neg h3]
  by_cases h4 : own_dg c4 = 0
  · simp only [own_stp_4, if_pos h4]
  simp only [own_stp_4, if_neg h4]
  by_cases h5 : own_dg c5 = 0
  · simp only [own_stp_5, if_pos h5]
  simp only [own_stp_5, if_neg h5]
  try simp only [own_stp_6]
theorem own_G1 (c0 c1 c2 c3 c4 c5 : Int32) (hd : ¬ own_dg c2 = (0 : Int32)) : own_de 2 c0 c1 c2 c3 c4 c5 = own_stp (own_stp (own_stp (own_stp 3 c0 c1 c2 c3 c4 c5) c0 c1 c2 c3 c4 c5) c0 c1 c2 c3 c4 c5) c0 c1 c2 c3 c4 c5 := by
  rw [own_de_2, if_neg hd]
  by_cases h3 : own_dg c3 = 0
  · simp only [own_stp_3, if_pos h3]
  simp only [own_stp_3, if_neg h3]
  by_cases h4 : own_dg c4 = 0
  · simp only [own_stp_4, if_pos h4]
  simp only [own_stp_4, if_neg h4]
  by_cases h5 : own_dg c5 = 0
  · simp only [own_stp_5, if_pos h5]
  simp only [own_stp_5, if_neg h5]
  try simp only [own_stp_6]
theorem own_G2 (c0 c1 c2 c3 c4 c5 : Int32) (hd : ¬ own_dg c3 = (0 : Int32)) : own_de 3 c0 c1 c2 c3 c4 c5 = own_stp (own_stp (own_stp (own_stp 4 c0 c1 c2 c3 c4 c5) c0 c1 c2 c3 c4 c5) c0 c1 c2 c3 c4 c5) c0 c1 c2 c3 c4 c5 := by
  rw [own_de_3, if_neg hd]
  by_cases h4 : own_dg c4 = 0
  · simp only [own_stp_4, if_pos h4]
  simp only [own_stp_4, if_neg h4]
  by_cases h5 : own_dg c5 = 0
  · simp only [own_stp_5, if_pos h5]
  simp only [own_stp_5, if_neg h5]
  try simp only [own_stp_6]
theorem own_G3 (c0 c1 c2 c3 c4 c5 : Int32) (hd : ¬ own_dg c4 = (0 : Int32)) : own_de 4 c0 c1 c2 c3 c4 c5 = own_stp (own_stp (own_stp (own_stp 5 c0 c1 c2 c3 c4 c5) c0 c1 c2 c3 c4 c5) c0 c1 c2 c3 c4 c5) c0 c1 c2 c3 c4 c5 := by
  rw [own_de_4, if_neg hd]
  by_cases h5 : own_dg c5 = 0
  · simp only [own_stp_5, if_pos h5]
  simp only [own_stp_5, if_neg h5]
  try simp only [own_stp_6]
theorem own_G4 (c0 c1 c2 c3 c4 c5 : Int32) (hd : ¬ own_dg c5 = (0 : Int32)) : own_de 5 c0 c1 c2 c3 c4 c5 = own_stp (own_stp (own_stp (own_stp 6 c0 c1 c2 c3 c4 c5) c0 c1 c2 c3 c4 c5) c0 c1 c2 c3 c4 c5) c0 c1 c2 c3 c4 c5 := by
  rw [own_de_5, if_neg hd]
  try simp only [own_stp_6]
theorem own_R (s c0 c1 c2 c3 c4 c5 : Int32) (h0 : ¬ s < (0 : Int32)) (h1 : s < (6 : Int32)) (hd : ¬ own_dg (own_get6 c0 c1 c2 c3 c4 c5 s) = (0 : Int32)) : own_de s c0 c1 c2 c3 c4 c5 = own_stp (own_stp (own_stp (own_stp (own_stp (s + (1 : Int32)) c0 c1 c2 c3 c4 c5) c0 c1 c2 c3 c4 c5) c0 c1 c2 c3 c4 c5) c0 c1 c2 c3 c4 c5) c0 c1 c2 c3 c4 c5 := by
  rcases own_six s h0 h1 with rfl | rfl | rfl | rfl | rfl | rfl
  · exact own_R0 c0 c1 c2 c3 c4 c5 hd
  · exact own_R1 c0 c1 c2 c3 c4 c5 hd
  · exact own_R2 c0 c1 c2 c3 c4 c5 hd
  · exact own_R3 c0 c1 c2 c3 c4 c5 hd
  · exact own_R4 c0 c1 c2 c3 c4 c5 hd
  · exact own_R5 c0 c1 c2 c3 c4 c5 hd
theorem own_G (r c0 c1 c2 c3 c4 c5 : Int32) (h0 : ¬ r < (0 : Int32)) (h6 : ¬ (6 : Int32) < r) (h1 : (r + (1 : Int32)) < (6 : Int32)) (hd : ¬ own_dg (own_get6 c0 c1 c2 c3 c4 c5 (r + (1 : Int32))) = (0 : Int32)) : own_de (r + (1 : Int32)) c0 c1 c2 c3 c4 c5 = own_stp (own_stp (own_stp (own_stp (r + (2 : Int32)) c0 c1 c2 c3 c4 c5) c0 c1 c2 c3 c4 c5) c0 c1 c2 c3 c4 c5) c0 c1 c2 c3 c4 c5 := by
  rcases own_sev r h0 h6 with rfl | rfl | rfl | rfl | rfl | rfl | rfl
  · exact own_G0 c0 c1 c2 c3 c4 c5 hd
  · exact own_G1 c0 c1 c2 c3 c4 c5 hd
  · exact own_G2 c0 c1 c2 c3 c4 c5 hd
  · exact own_G3 c0 c1 c2 c3 c4 c5 hd
  · exact own_G4 c0 c1 c2 c3 c4 c5 hd
  · exact absurd h1 (by decide)
  · exact absurd h1 (by decide)
theorem pd_4 : parseMethodDescriptor "([C)V" = some ⟨[(.array .char)], none⟩ := by decide +kernel
theorem pd_5 : parseMethodDescriptor "([CI)I" = some ⟨[(.array .char), .int], some .int⟩ := by decide +kernel
theorem ef_0 (m : MethodId) (p0_0 : Int32) (p0_1 : Int32) (p0_2 : Int32) (p0_3 : Int32) : entryFrame m #[(.int p0_0), (.int p0_1), (.int p0_2), (.int p0_3)] maxLocals = mkF m 0 #[.val (.int p0_0), .val (.int p0_1), .val (.int p0_2), .val (.int p0_3), .unset, .unset, .unset, .unset, .unset, .unset, .unset] [] := by first | (simp [entryFrame, mkF, argsToLocals, Value.category, maxLocals]; done) | rfl
def Q0 (Z : State) (p0_0 : Int32) (p0_1 : Int32) (p0_2 : Int32) (p0_3 : Int32) (cs : Int32) (fm : Value) (h0 : Heap) (n0 : Nat) (v : Option Value) (h : Heap) (L : List Loc) : Prop := v = some (.int (1 : Int32)) ∧ Fr n0 L
set_option maxRecDepth 65536 in
set_option maxHeartbeats 40000000 in
theorem rm0 (l : Launch) (Z : State) (a0 : Array Value) (hw : ∀ d ∈ tables_1, d.before a0 Z = true) (ws : List Jvm.Cond) (p0_0 : Int32) (p0_1 : Int32) (p0_2 : Int32) (p0_3 : Int32) (cs : Int32) (fm : Value) (h0 : Heap) (n0 : Nat) (Z0 : n0 ≤ h0.size) (Sc : Sta Z h0 "java/lang/String" "COMPACT_STRINGS" "Z" (.int cs)) (Sf : Sta Z h0 "jdk/internal/util/Preconditions" "SIOOBE_FORMATTER" "Ljava/util/function/BiFunction;" fm) (hcs : ¬ (cs = (0 : Int32))) (hfm : fm.isRef = true) :
    MetFree l x (head1 (Jvm.Cond.code x code maxLocals ret :: ws) room_1) (fun a U => a = #[(.int p0_0), (.int p0_1), (.int p0_2), (.int p0_3)] ∧ Z.Warmed39 U.vm ∧ U.heap = h0) (fun _ _ _ _ _ => True) (fun _ U o U' => ∃ v L, o = .returned v ∧ Q0 Z p0_0 p0_1 p0_2 p0_3 cs fm h0 n0 v U'.heap L ∧ FrameEnd U o U' L 16 128) := by
  refine MetFree.of_bodySF (plainFor_of_name pn_0) hisR ?_
  intro p e s m args below meth c s₁ Bd hml0 hP hK
  obtain ⟨rfl, hZ, hh⟩ := hP
  have hx := Bd.exec
  have hby := Bd.bytes
  have hml : c.maxLocals = 11 := hml0
  have hown : s.vm.findClass "com/example/oyster/oyster/engine/LiteralsNumberEndPinLaw" = some m.cls := findClass_of_methodNamed Bd.named
  have hnm := (name_of_methodNamed Bd.named Bd.method).1
  have X0 : Stand p l e room_1 s m #[(.int p0_0), (.int p0_1), (.int p0_2), (.int p0_3)] below meth c s₁ [] 0 0 := Stand.of_body Bd
  have e0 : s₁.heap = h0 := by rw [← hh, Bd.state]; rfl
  have N0 := Fr.nil n0
  have pre0 : ∀ t, Steps p.tables e below (s₁.setTop (mkF m 0 #[.val (.int p0_0), .val (.int p0_1), .val (.int p0_2), .val (.int p0_3), .unset, .unset, .unset, .unset, .unset, .unset, .unset] [])) t → Steps p.tables e below (s₁.setTop (entryFrame m #[(.int p0_0), (.int p0_1), (.int p0_2), (.int p0_3)] maxLocals)) t := fun t k => castTop (ef_0 m p0_0 p0_1 p0_2 p0_3) k
  obtain ⟨b1, g1⟩ : ∃ z, z = h0.size := ⟨_, rfl⟩
  obtain ⟨T1, h1, k1, X1, e1, E1, A1, st1⟩ := newP X0 hx hZ (hw _ (List.mem_of_getElem? (i := 0) rfl)) e0 (g := (mkF m 2 #[.val (.int p0_0), .val (.int p0_1), .val (.int p0_2), .val (.int p0_3), .unset, .unset, .unset, .unset, .unset, .unset, .unset] [(.int (6 : Int32))])) rfl (hb hby at_2) rfl (by decide) (cap := 6) (by decide) (by decide) (by decide) (by decide)
  rw [← g1] at A1 st1
  have gg1 : n0 ≤ b1 := Nat.le_trans Z0 (Nat.le_of_eq g1.symm)
  have Zs1 : n0 ≤ h1.size := Nat.le_trans Z0 E1.1
  have F2 : Sta Z h1 "java/lang/String" "COMPACT_STRINGS" "Z" (.int cs) := Sc.ext E1
  have F3 : Sta Z h1 "jdk/internal/util/Preconditions" "SIOOBE_FORMATTER" "Ljava/util/function/BiFunction;" fm := Sf.ext E1
  have V1 : Arv Z h1 b1 k1 .int (6 : Int32) [(.int (0 : Int32)), (.int (0 : Int32)), (.int (0 : Int32)), (.int (0 : Int32)), (.int (0 : Int32)), (.int (0 : Int32))] (.int (0 : Int32)) := (Arv.new A1 (by decide)).pad (pad_rep [] (.int (0 : Int32)) 6)
  have k4 : ∀ t, Steps p.tables e below (T1.setTop (mkF m 13 #[.val (.int p0_0), .val (.int p0_1), .val (.int p0_2), .val (.int p0_3), .val (.ref b1), .unset, .unset, .unset, .unset, .unset, .unset] [(.int (p0_0 &&& (65535 : Int32))), (.int (0 : Int32)), (.ref b1)])) t → Steps p.tables e below (s₁.setTop (entryFrame m #[(.int p0_0), (.int p0_1), (.int p0_2), (.int p0_3)] maxLocals)) t := by
    intro t k
    refine pre0 t ?_
    show Steps p.tables e below (s₁.setTop (mkF m 0 #[.val (.int p0_0), .val (.int p0_1), .val (.int p0_2), .val (.int p0_3), .unset, .unset, .unset, .unset, .unset, .unset, .unset] [])) _
    refine XS.bipush X0.here hx rfl (hb hby at_0) ?_
    show Steps p.tables e below (s₁.setTop (mkF m 2 #[.val (.int p0_0), .val (.int p0_1), .val (.int p0_2), .val (.int p0_3), .unset, .unset, .unset, .unset, .unset, .unset, .unset] [(.int (6 : Int32))])) _
    refine st1 _ ?_
    show Steps p.tables e below (T1.setTop (mkF m 4 #[.val (.int p0_0), .val (.int p0_1), .val (.int p0_2), .val (.int p0_3), .unset, .unset, .unset, .unset, .unset, .unset, .unset] [(.ref b1)])) _
    refine XS.astore X1.here hx rfl (hb hby at_4) rfl rfl (l' := #[.val (.int p0_0), .val (.int p0_1), .val (.int p0_2), .val (.int p0_3), .val (.ref b1), .unset, .unset, .unset, .unset, .unset, .unset]) rfl ?_
    show Steps p.tables e below (T1.setTop (mkF m 6 #[.val (.int p0_0), .val (.int p0_1), .val (.int p0_2), .val (.int p0_3), .val (.ref b1), .unset, .unset, .unset, .unset, .unset, .unset] [])) _
    refine XS.aload X1.here hx rfl (hb hby at_6) rfl rfl ?_
    show Steps p.tables e below (T1.setTop (mkF m 8 #[.val (.int p0_0), .val (.int p0_1), .val (.int p0_2), .val (.int p0_3), .val (.ref b1), .unset, .unset, .unset, .unset, .unset, .unset] [(.ref b1)])) _
    refine XS.iconst X1.here hx rfl (hb hby at_8) ?_
    show Steps p.tables e below (T1.setTop (mkF m 9 #[.val (.int p0_0), .val (.int p0_1), .val (.int p0_2), .val (.int p0_3), .val (.ref b1), .unset, .unset, .unset, .unset, .unset, .unset] [(.int (0 : Int32)), (.ref b1)])) _
    refine XS.iloadN X1.here hx rfl (hb hby at_9) rfl ?_
    show Steps p.tables e below (T1.setTop (mkF m 10 #[.val (.int p0_0), .val (.int p0_1), .val (.int p0_2), .val (.int p0_3), .val (.ref b1), .unset, .unset, .unset, .unset, .unset, .unset] [(.int p0_0), (.int (0 : Int32)), (.ref b1)])) _
    refine X1.ldcInt hx hown (mvT hZ (hw _ (List.mem_of_getElem? (i := 1) rfl))) (g := (mkF m 10 #[.val (.int p0_0), .val (.int p0_1), .val (.int p0_2), .val (.int p0_3), .val (.ref b1), .unset, .unset, .unset, .unset, .unset, .unset] [(.int p0_0), (.int (0 : Int32)), (.ref b1)])) rfl (hb hby at_10) _ ?_
    show Steps p.tables e below (T1.setTop (mkF m 12 #[.val (.int p0_0), .val (.int p0_1), .val (.int p0_2), .val (.int p0_3), .val (.ref b1), .unset, .unset, .unset, .unset, .unset, .unset] [(.int (65535 : Int32)), (.int p0_0), (.int (0 : Int32)), (.ref b1)])) _
    refine XS.iand X1.here hx rfl (hb hby at_12) rfl ?_
    exact k
  obtain ⟨zk0, hzk0⟩ : ∃ z, z = (p0_0 &&& (65535 : Int32)) := ⟨_, rfl⟩
  rw [← hzk0] at k4
  obtain ⟨cl5, Ar5, qc5, Sz5, Nn5, Hh5, Gg5⟩ := (id V1)
  have hin5 : ¬ ((0 : Int32) < 0 ∨ cl5.slots.size ≤ ((0 : Int32)).toNatClampNeg) := inb_of Sz5 ⟨by decide, by decide⟩
  obtain ⟨T5, h5, X5, e5, W5, st5⟩ := stI X1 hx hZ e1 Ar5 (j := (0 : Int32)) hin5 (g := (mkF m 13 #[.val (.int p0_0), .val (.int p0_1), .val (.int p0_2), .val (.int p0_3), .val (.ref b1), .unset, .unset, .unset, .unset, .unset, .unset] [(.int zk0), (.int (0 : Int32)), (.ref b1)])) rfl rfl (hb hby at_13)
  have F6 : Sta Z h5 "java/lang/String" "COMPACT_STRINGS" "Z" (.int cs) := F2.wr W5
  have F7 : Sta Z h5 "jdk/internal/util/Preconditions" "SIOOBE_FORMATTER" "Ljava/util/function/BiFunction;" fm := F3.wr W5
  have V5 : Arv Z h5 b1 k1 .int (6 : Int32) [(.int zk0), (.int (0 : Int32)), (.int (0 : Int32)), (.int (0 : Int32)), (.int (0 : Int32)), (.int (0 : Int32))] (.int (0 : Int32)) := Arv.set Ar5 qc5 Sz5 Nn5 Hh5 Gg5 rfl W5 0 rfl (Nat.le_of_ble_eq_true rfl)
  have N5 := Fr.snoc X5 N0 gg1
  have Zs5 : n0 ≤ h5.size := by rw [W5.size]; exact Zs1
  have k9 : ∀ t, Steps p.tables e below (T5.setTop (mkF m 21 #[.val (.int p0_0), .val (.int p0_1), .val (.int p0_2), .val (.int p0_3), .val (.ref b1), .unset, .unset, .unset, .unset, .unset, .unset] [(.int ((p0_0.toUInt32 >>> ((16 : Int32) &&& 31).toUInt32).toInt32)), (.int (1 : Int32)), (.ref b1)])) t → Steps p.tables e below (s₁.setTop (entryFrame m #[(.int p0_0), (.int p0_1), (.int p0_2), (.int p0_3)] maxLocals)) t := by
    intro t k
    refine k4 t ?_
    show Steps p.tables e below (T1.setTop (mkF m 13 #[.val (.int p0_0), .val (.int p0_1), .val (.int p0_2), .val (.int p0_3), .val (.ref b1), .unset, .unset, .unset, .unset, .unset, .unset] [(.int zk0), (.int (0 : Int32)), (.ref b1)])) _
    refine st5 _ ?_
    show Steps p.tables e below (T5.setTop (mkF m 14 #[.val (.int p0_0), .val (.int p0_1), .val (.int p0_2), .val (.int p0_3), .val (.ref b1), .unset, .unset, .unset, .unset, .unset, .unset] [])) _
    refine XS.aload X5.here hx rfl (hb hby at_14) rfl rfl ?_
    show Steps p.tables e below (T5.setTop (mkF m 16 #[.val (.int p0_0), .val (.int p0_1), .val (.int p0_2), .val (.int p0_3), .val (.ref b1), .unset, .unset, .unset, .unset, .unset, .unset] [(.ref b1)])) _
    refine XS.iconst X5.here hx rfl (hb hby at_16) ?_
    show Steps p.tables e below (T5.setTop (mkF m 17 #[.val (.int p0_0), .val (.int p0_1), .val (.int p0_2), .val (.int p0_3), .val (.ref b1), .unset, .unset, .unset, .unset, .unset, .unset] [(.int (1 : Int32)), (.ref b1)])) _
    refine XS.iloadN X5.here hx rfl (hb hby at_17) rfl ?_
    show Steps p.tables e below (T5.setTop (mkF m 18 #[.val (.int p0_0), .val (.int p0_1), .val (.int p0_2), .val (.int p0_3), .val (.ref b1), .unset, .unset, .unset, .unset, .unset, .unset] [(.int p0_0), (.int (1 : Int32)), (.ref b1)])) _
    refine XS.bipush X5.here hx rfl (hb hby at_18) ?_
    show Steps p.tables e below (T5.setTop (mkF m 20 #[.val (.int p0_0), .val (.int p0_1), .val (.int p0_2), .val (.int p0_3), .val (.ref b1), .unset, .unset, .unset, .unset, .unset, .unset] [(.int (16 : Int32)), (.int p0_0), (.int (1 : Int32)), (.ref b1)])) _
    refine XS.iushr X5.here hx rfl (hb hby at_20) rfl ?_
    exact k
  obtain ⟨zk1, hzk1⟩ : ∃ z, z = ((p0_0.toUInt32 >>> ((16 : Int32) &&& 31).toUInt32).toInt32) := ⟨_, rfl⟩
  rw [← hzk1] at k9
  obtain ⟨cl10, Ar10, qc10, Sz10, Nn10, Hh10, Gg10⟩ := (id V5)
  have hin10 : ¬ ((1 : Int32) < 0 ∨ cl10.slots.size ≤ ((1 : Int32)).toNatClampNeg) := inb_of Sz10 ⟨by decide, by decide⟩
  obtain ⟨T10, h10, X10, e10, W10, st10⟩ := stI X5 hx hZ e5 Ar10 (j := (1 : Int32)) hin10 (g := (mkF m 21 #[.val (.int p0_0), .val (.int p0_1), .val (.int p0_2), .val (.int p0_3), .val (.ref b1), .unset, .unset, .unset, .unset, .unset, .unset] [(.int zk1), (.int (1 : Int32)), (.ref b1)])) rfl rfl (hb hby at_21)
  have F11 : Sta Z h10 "java/lang/String" "COMPACT_STRINGS" "Z" (.int cs) := F6.wr W10
  have F12 : Sta Z h10 "jdk/internal/util/Preconditions" "SIOOBE_FORMATTER" "Ljava/util/function/BiFunction;" fm := F7.wr W10
  have V10 : Arv Z h10 b1 k1 .int (6 : Int32) [(.int zk0), (.int zk1), (.int (0 : Int32)), (.int (0 : Int32)), (.int (0 : Int32)), (.int (0 : Int32))] (.int (0 : Int32)) := Arv.set Ar10 qc10 Sz10 Nn10 Hh10 Gg10 rfl W10 1 rfl (Nat.le_of_ble_eq_true rfl)
  have N10 := Fr.snoc X10 N5 gg1
  have Zs10 : n0 ≤ h10.size := by rw [W10.size]; exact Zs5
  have k14 : ∀ t, Steps p.tables e below (T10.setTop (mkF m 29 #[.val (.int p0_0), .val (.int p0_1), .val (.int p0_2), .val (.int p0_3), .val (.ref b1), .unset, .unset, .unset, .unset, .unset, .unset] [(.int (p0_1 &&& (65535 : Int32))), (.int (2 : Int32)), (.ref b1)])) t → Steps p.tables e below (s₁.setTop (entryFrame m #[(.int p0_0), (.int p0_1), (.int p0_2), (.int p0_3)] maxLocals)) t := by
    intro t k
    refine k9 t ?_
    show Steps p.tables e below (T5.setTop (mkF m 21 #[.val (.int p0_0), .val (.int p0_1), .val (.int p0_2), .val (.int p0_3), .val (.ref b1), .unset, .unset, .unset, .unset, .unset, .unset] [(.int zk1), (.int (1 : Int32)), (.ref b1)])) _
    refine st10 _ ?_
    show Steps p.tables e below (T10.setTop (mkF m 22 #[.val (.int p0_0), .val (.int p0_1), .val (.int p0_2), .val (.int p0_3), .val (.ref b1), .unset, .unset, .unset, .unset, .unset, .unset] [])) _
    refine XS.aload X10.here hx rfl (hb hby at_22) rfl rfl ?_
    show Steps p.tables e below (T10.setTop (mkF m 24 #[.val (.int p0_0), .val (.int p0_1), .val (.int p0_2), .val (.int p0_3), .val (.ref b1), .unset, .unset, .unset, .unset, .unset, .unset] [(.ref b1)])) _
    refine XS.iconst X10.here hx rfl (hb hby at_24) ?_
    show Steps p.tables e below (T10.setTop (mkF m 25 #[.val (.int p0_0), .val (.int p0_1), .val (.int p0_2), .val (.int p0_3), .val (.ref b1), .unset, .unset, .unset, .unset, .unset, .unset] [(.int (2 : Int32)), (.ref b1)])) _
    refine XS.iloadN X10.here hx rfl (hb hby at_25) rfl ?_
    show Steps p.tables e below (T10.setTop (mkF m 26 #[.val (.int p0_0), .val (.int p0_1), .val (.int p0_2), .val (.int p0_3), .val (.ref b1), .unset, .unset, .unset, .unset, .unset, .unset] [(.int p0_1), (.int (2 : Int32)), (.ref b1)])) _
    refine X10.ldcInt hx hown (mvT hZ (hw _ (List.mem_of_getElem? (i := 1) rfl))) (g := (mkF m 26 #[.val (.int p0_0), .val (.int p0_1), .val (.int p0_2), .val (.int p0_3), .val (.ref b1), .unset, .unset, .unset, .unset, .unset, .unset] [(.int p0_1), (.int (2 : Int32)), (.ref b1)])) rfl (hb hby at_26) _ ?_
    show Steps p.tables e below (T10.setTop (mkF m 28 #[.val (.int p0_0), .val (.int p0_1), .val (.int p0_2), .val (.int p0_3), .val (.ref b1), .unset, .unset, .unset, .unset, .unset, .unset] [(.int (65535 : Int32)), (.int p0_1), (.int (2 : Int32)), (.ref b1)])) _
    refine XS.iand X10.here hx rfl (hb hby at_28) rfl ?_
    exact k
  obtain ⟨zk2, hzk2⟩ : ∃ z, z = (p0_1 &&& (65535 : Int32)) := ⟨_, rfl⟩
  rw [← hzk2] at k14
  obtain ⟨cl15, Ar15, qc15, Sz15, Nn15, Hh15, Gg15⟩ := (id V10)
  have hin15 : ¬ ((2 : Int32) < 0 ∨ cl15.slots.size ≤ ((2 : Int32)).toNatClampNeg) := inb_of Sz15 ⟨by decide, by decide⟩
  obtain ⟨T15, h15, X15, e15, W15, st15⟩ := stI X10 hx hZ e10 Ar15 (j := (2 : Int32)) hin15 (g := (mkF m 29 #[.val (.int p0_0), .val (.int p0_1), .val (.int p0_2), .val (.int p0_3), .val (.ref b1), .unset, .unset, .unset, .unset, .unset, .unset] [(.int zk2), (.int (2 : Int32)), (.ref b1)])) rfl rfl (hb hby at_29)
  have F16 : Sta Z h15 "java/lang/String" "COMPACT_STRINGS" "Z" (.int cs) := F11.wr W15
  have F17 : Sta Z h15 "jdk/internal/util/Preconditions" "SIOOBE_FORMATTER" "Ljava/util/function/BiFunction;" fm := F12.wr W15
  have V15 : Arv Z h15 b1 k1 .int (6 : Int32) [(.int zk0), (.int zk1), (.int zk2), (.int (0 : Int32)), (.int (0 : Int32)), (.int (0 : Int32))] (.int (0 : Int32)) := Arv.set Ar15 qc15 Sz15 Nn15 Hh15 Gg15 rfl W15 2 rfl (Nat.le_of_ble_eq_true rfl)
  have N15 := Fr.snoc X15 N10 gg1
  have Zs15 : n0 ≤ h15.size := by rw [W15.size]; exact Zs10
  have k19 : ∀ t, Steps p.tables e below (T15.setTop (mkF m 37 #[.val (.int p0_0), .val (.int p0_1), .val (.int p0_2), .val (.int p0_3), .val (.ref b1), .unset, .unset, .unset, .unset, .unset, .unset] [(.int ((p0_1.toUInt32 >>> ((16 : Int32) &&& 31).toUInt32).toInt32)), (.int (3 : Int32)), (.ref b1)])) t → Steps p.tables e below (s₁.setTop (entryFrame m #[(.int p0_0), (.int p0_1), (.int p0_2), (.int p0_3)] maxLocals)) t := by
    intro t k
    refine k14 t ?_
    show Steps p.tables e below (T10.setTop (mkF m 29 #[.val (.int p0_0), .val (.int p0_1), .val (.int p0_2), .val (.int p0_3), .val (.ref b1), .unset, .unset, .unset, .unset, .unset, .unset] [(.int zk2), (.int (2 : Int32)), (.ref b1)])) _
    refine st15 _ ?_
    show Steps p.tables e below (T15.setTop (mkF m 30 #[.val (.int p0_0), .val (.int p0_1), .val (.int p0_2), .val (.int p0_3), .val (.ref b1), .unset, .unset, .unset, .unset, .unset, .unset] [])) _
    refine XS.aload X15.here hx rfl (hb hby at_30) rfl rfl ?_
    show Steps p.tables e below (T15.setTop (mkF m 32 #[.val (.int p0_0), .val (.int p0_1), .val (.int p0_2), .val (.int p0_3), .val (.ref b1), .unset, .unset, .unset, .unset, .unset, .unset] [(.ref b1)])) _
    refine XS.iconst X15.here hx rfl (hb hby at_32) ?_
    show Steps p.tables e below (T15.setTop (mkF m 33 #[.val (.int p0_0), .val (.int p0_1), .val (.int p0_2), .val (.int p0_3), .val (.ref b1), .unset, .unset, .unset, .unset, .unset, .unset] [(.int (3 : Int32)), (.ref b1)])) _
    refine XS.iloadN X15.here hx rfl (hb hby at_33) rfl ?_
    show Steps p.tables e below (T15.setTop (mkF m 34 #[.val (.int p0_0), .val (.int p0_1), .val (.int p0_2), .val (.int p0_3), .val (.ref b1), .unset, .unset, .unset, .unset, .unset, .unset] [(.int p0_1), (.int (3 : Int32)), (.ref b1)])) _
    refine XS.bipush X15.here hx rfl (hb hby at_34) ?_
    show Steps p.tables e below (T15.setTop (mkF m 36 #[.val (.int p0_0), .val (.int p0_1), .val (.int p0_2), .val (.int p0_3), .val (.ref b1), .unset, .unset, .unset, .unset, .unset, .unset] [(.int (16 : Int32)), (.int p0_1), (.int (3 : Int32)), (.ref b1)])) _
    refine XS.iushr X15.here hx rfl (hb hby at_36) rfl ?_
    exact k
  obtain ⟨zk3, hzk3⟩ : ∃ z, z = ((p0_1.toUInt32 >>> ((16 : Int32) &&& 31).toUInt32).toInt32) := ⟨_, rfl⟩
  rw [← hzk3] at k19
  obtain ⟨cl20, Ar20, qc20, Sz20, Nn20, Hh20, Gg20⟩ := (id V15)
  have hin20 : ¬ ((3 : Int32) < 0 ∨ cl20.slots.size ≤ ((3 : Int32)).toNatClampNeg) := inb_of Sz20 ⟨by decide, by decide⟩
  obtain ⟨T20, h20, X20, e20, W20, st20⟩ := stI X15 hx hZ e15 Ar20 (j := (3 : Int32)) hin20 (g := (mkF m 37 #[.val (.int p0_0), .val (.int p0_1), .val (.int p0_2), .val (.int p0_3), .val (.ref b1), .unset, .unset, .unset, .unset, .unset, .unset] [(.int zk3), (.int (3 : Int32)), (.ref b1)])) rfl rfl (hb hby at_37)
  have F21 : Sta Z h20 "java/lang/String" "COMPACT_STRINGS" "Z" (.int cs) := F16.wr W20
  have F22 : Sta Z h20 "jdk/internal/util/Preconditions" "SIOOBE_FORMATTER" "Ljava/util/function/BiFunction;" fm := F17.wr W20
  have V20 : Arv Z h20 b1 k1 .int (6 : Int32) [(.int zk0), (.int zk1), (.int zk2), (.int zk3), (.int (0 : Int32)), (.int (0 : Int32))] (.int (0 : Int32)) := Arv.set Ar20 qc20 Sz20 Nn20 Hh20 Gg20 rfl W20 3 rfl (Nat.le_of_ble_eq_true rfl)
  have N20 := Fr.snoc X20 N15 gg1
  have Zs20 : n0 ≤ h20.size := by rw [W20.size]; exact Zs15
  have k24 : ∀ t, Steps p.tables e below (T20.setTop (mkF m 45 #[.val (.int p0_0), .val (.int p0_1), .val (.int p0_2), .val (.int p0_3), .val (.ref b1), .unset, .unset, .unset, .unset, .unset, .unset] [(.int (p0_2 &&& (65535 : Int32))), (.int (4 : Int32)), (.ref b1)])) t → Steps p.tables e below (s₁.setTop (entryFrame m #[(.int p0_0), (.int p0_1), (.int p0_2), (.int p0_3)] maxLocals)) t := by
    intro t k
    refine k19 t ?_
    show Steps p.tables e below (T15.setTop (mkF m 37 #[.val (.int p0_0), .val (.int p0_1), .val (.int p0_2), .val (.int p0_3), .val (.ref b1), .unset, .unset, .unset, .unset, .unset, .unset] [(.int zk3), (.int (3 : Int32)), (.ref b1)])) _
    refine st20 _ ?_
    show Steps p.tables e below (T20.setTop (mkF m 38 #[.val (.int p0_0), .val (.int p0_1), .val (.int p0_2), .val (.int p0_3), .val (.ref b1), .unset, .unset, .unset, .unset, .unset, .unset] [])) _
    refine XS.aload X20.here hx rfl (hb hby at_38) rfl rfl ?_
    show Steps p.tables e below (T20.setTop (mkF m 40 #[.val (.int p0_0), .val (.int p0_1), .val (.int p0_2), .val (.int p0_3), .val (.ref b1), .unset, .unset, .unset, .unset, .unset, .unset] [(.ref b1)])) _
    refine XS.iconst X20.here hx rfl (hb hby at_40) ?_
    show Steps p.tables e below (T20.setTop (mkF m 41 #[.val (.int p0_0), .val (.int p0_1), .val (.int p0_2), .val (.int p0_3), .val (.ref b1), .unset, .unset, .unset, .unset, .unset, .unset] [(.int (4 : Int32)), (.ref b1)])) _
    refine XS.iloadN X20.here hx rfl (hb hby at_41) rfl ?_
    show Steps p.tables e below (T20.setTop (mkF m 42 #[.val (.int p0_0), .val (.int p0_1), .val (.int p0_2), .val (.int p0_3), .val (.ref b1), .unset, .unset, .unset, .unset, .unset, .unset] [(.int p0_2), (.int (4 : Int32)), (.ref b1)])) _
    refine X20.ldcInt hx hown (mvT hZ (hw _ (List.mem_of_getElem? (i := 1) rfl))) (g := (mkF m 42 #[.val (.int p0_0), .val (.int p0_1), .val (.int p0_2), .val (.int p0_3), .val (.ref b1), .unset, .unset, .unset, .unset, .unset, .unset] [(.int p0_2), (.int (4 : Int32)), (.ref b1)])) rfl (hb hby at_42) _ ?_
    show Steps p.tables e below (T20.setTop (mkF m 44 #[.val (.int p0_0), .val (.int p0_1), .val (.int p0_2), .val (.int p0_3), .val (.ref b1), .unset, .unset, .unset, .unset, .unset, .unset] [(.int (65535 : Int32)), (.int p0_2), (.int (4 : Int32)), (.ref b1)])) _
    refine XS.iand X20.here hx rfl (hb hby at_44) rfl ?_
    exact k
  obtain ⟨zk4, hzk4⟩ : ∃ z, z = (p0_2 &&& (65535 : Int32)) := ⟨_, rfl⟩
  rw [← hzk4] at k24
  obtain ⟨cl25, Ar25, qc25, Sz25, Nn25, Hh25, Gg25⟩ := (id V20)
  have hin25 : ¬ ((4 : Int32) < 0 ∨ cl25.slots.size ≤ ((4 : Int32)).toNatClampNeg) := inb_of Sz25 ⟨by decide, by decide⟩
  obtain ⟨T25, h25, X25, e25, W25, st25⟩ := stI X20 hx hZ e20 Ar25 (j := (4 : Int32)) hin25 (g := (mkF m 45 #[.val (.int p0_0), .val (.int p0_1), .val (.int p0_2), .val (.int p0_3), .val (.ref b1), .unset, .unset, .unset, .unset, .unset, .unset] [(.int zk4), (.int (4 : Int32)), (.ref b1)])) rfl rfl (hb hby at_45)
  have F26 : Sta Z h25 "java/lang/String" "COMPACT_STRINGS" "Z" (.int cs) := F21.wr W25
  have F27 : Sta Z h25 "jdk/internal/util/Preconditions" "SIOOBE_FORMATTER" "Ljava/util/function/BiFunction;" fm := F22.wr W25
  have V25 : Arv Z h25 b1 k1 .int (6 : Int32) [(.int zk0), (.int zk1), (.int zk2), (.int zk3), (.int zk4), (.int (0 : Int32))] (.int (0 : Int32)) := Arv.set Ar25 qc25 Sz25 Nn25 Hh25 Gg25 rfl W25 4 rfl (Nat.le_of_ble_eq_true rfl)
  have N25 := Fr.snoc X25 N20 gg1
  have Zs25 : n0 ≤ h25.size := by rw [W25.size]; exact Zs20
  have k29 : ∀ t, Steps p.tables e below (T25.setTop (mkF m 53 #[.val (.int p0_0), .val (.int p0_1), .val (.int p0_2), .val (.int p0_3), .val (.ref b1), .unset, .unset, .unset, .unset, .unset, .unset] [(.int ((p0_2.toUInt32 >>> ((16 : Int32) &&& 31).toUInt32).toInt32)), (.int (5 : Int32)), (.ref b1)])) t → Steps p.tables e below (s₁.setTop (entryFrame m #[(.int p0_0), (.int p0_1), (.int p0_2), (.int p0_3)] maxLocals)) t := by
    intro t k
    refine k24 t ?_
    show Steps p.tables e below (T20.setTop (mkF m 45 #[.val (.int p0_0), .val (.int p0_1), .val (.int p0_2), .val (.int p0_3), .val (.ref b1), .unset, .unset, .unset, .unset, .unset, .unset] [(.int zk4), (.int (4 : Int32)), (.ref b1)])) _
    refine st25 _ ?_
    show Steps p.tables e below (T25.setTop (mkF m 46 #[.val (.int p0_0), .val (.int p0_1), .val (.int p0_2), .val (.int p0_3), .val (.ref b1), .unset, .unset, .unset, .unset, .unset, .unset] [])) _
    refine XS.aload X25.here hx rfl (hb hby at_46) rfl rfl ?_
    show Steps p.tables e below (T25.setTop (mkF m 48 #[.val (.int p0_0), .val (.int p0_1), .val (.int p0_2), .val (.int p0_3), .val (.ref b1), .unset, .unset, .unset, .unset, .unset, .unset] [(.ref b1)])) _
    refine XS.iconst X25.here hx rfl (hb hby at_48) ?_
    show Steps p.tables e below (T25.setTop (mkF m 49 #[.val (.int p0_0), .val (.int p0_1), .val (.int p0_2), .val (.int p0_3), .val (.ref b1), .unset, .unset, .unset, .unset, .unset, .unset] [(.int (5 : Int32)), (.ref b1)])) _
    refine XS.iloadN X25.here hx rfl (hb hby at_49) rfl ?_
    show Steps p.tables e below (T25.setTop (mkF m 50 #[.val (.int p0_0), .val (.int p0_1), .val (.int p0_2), .val (.int p0_3), .val (.ref b1), .unset, .unset, .unset, .unset, .unset, .unset] [(.int p0_2), (.int (5 : Int32)), (.ref b1)])) _
    refine XS.bipush X25.here hx rfl (hb hby at_50) ?_
    show Steps p.tables e below (T25.setTop (mkF m 52 #[.val (.int p0_0), .val (.int p0_1), .val (.int p0_2), .val (.int p0_3), .val (.ref b1), .unset, .unset, .unset, .unset, .unset, .unset] [(.int (16 : Int32)), (.int p0_2), (.int (5 : Int32)), (.ref b1)])) _
    refine XS.iushr X25.here hx rfl (hb hby at_52) rfl ?_
    exact k
  obtain ⟨zk5, hzk5⟩ : ∃ z, z = ((p0_2.toUInt32 >>> ((16 : Int32) &&& 31).toUInt32).toInt32) := ⟨_, rfl⟩
  rw [← hzk5] at k29
  obtain ⟨cl30, Ar30, qc30, Sz30, Nn30, Hh30, Gg30⟩ := (id V25)
  have hin30 : ¬ ((5 : Int32) < 0 ∨ cl30.slots.size ≤ ((5 : Int32)).toNatClampNeg) := inb_of Sz30 ⟨by decide, by decide⟩
  obtain ⟨T30, h30, X30, e30, W30, st30⟩ := stI X25 hx hZ e25 Ar30 (j := (5 : Int32)) hin30 (g := (mkF m 53 #[.val (.int p0_0), .val (.int p0_1), .val (.int p0_2), .val (.int p0_3), .val (.ref b1), .unset, .unset, .unset, .unset, .unset, .unset] [(.int zk5), (.int (5 : Int32)), (.ref b1)])) rfl rfl (hb hby at_53)
  have F31 : Sta Z h30 "java/lang/String" "COMPACT_STRINGS" "Z" (.int cs) := F26.wr W30
  have F32 : Sta Z h30 "jdk/internal/util/Preconditions" "SIOOBE_FORMATTER" "Ljava/util/function/BiFunction;" fm := F27.wr W30
  have V30 : Arv Z h30 b1 k1 .int (6 : Int32) [(.int zk0), (.int zk1), (.int zk2), (.int zk3), (.int zk4), (.int zk5)] (.int (0 : Int32)) := Arv.set Ar30 qc30 Sz30 Nn30 Hh30 Gg30 rfl W30 5 rfl (Nat.le_of_ble_eq_true rfl)
  have N30 := Fr.snoc X30 N25 gg1
  have Zs30 : n0 ≤ h30.size := by rw [W30.size]; exact Zs25
  obtain ⟨b34, g34⟩ : ∃ z, z = h30.size := ⟨_, rfl⟩
  obtain ⟨T34, h34, k34, X34, e34, E34, A34, st34⟩ := newP X30 hx hZ (hw _ (List.mem_of_getElem? (i := 2) rfl)) e30 (g := (mkF m 56 #[.val (.int p0_0), .val (.int p0_1), .val (.int p0_2), .val (.int p0_3), .val (.ref b1), .unset, .unset, .unset, .unset, .unset, .unset] [(.int (6 : Int32))])) rfl (hb hby at_56) rfl (by decide) (cap := 6) (by decide) (by decide) (by decide) (by decide)
  rw [← g34] at A34 st34
  have ne35 : b1 ≠ b34 := Nat.ne_of_lt (Nat.lt_of_lt_of_le V30.lt (Nat.le_of_eq g34.symm))
  have gg34 : n0 ≤ b34 := Nat.le_trans Zs30 (Nat.le_of_eq g34.symm)
  have Zs34 : n0 ≤ h34.size := Nat.le_trans Zs30 E34.1
  have F36 : Sta Z h34 "java/lang/String" "COMPACT_STRINGS" "Z" (.int cs) := F31.ext E34
  have F37 : Sta Z h34 "jdk/internal/util/Preconditions" "SIOOBE_FORMATTER" "Ljava/util/function/BiFunction;" fm := F32.ext E34
  have F38 : Arv Z h34 b1 k1 .int (6 : Int32) [(.int zk0), (.int zk1), (.int zk2), (.int zk3), (.int zk4), (.int zk5)] (.int (0 : Int32)) := V30.ext E34
  have V34 : Arv Z h34 b34 k34 .char (6 : Int32) [(.int (0 : Int32)), (.int (0 : Int32)), (.int (0 : Int32)), (.int (0 : Int32)), (.int (0 : Int32)), (.int (0 : Int32))] (.int (0 : Int32)) := (Arv.new A34 (by decide)).pad (pad_rep [] (.int (0 : Int32)) 6)
  obtain ⟨cl39, Ar39, qc39, Sz39, Nn39, Hh39, Gg39⟩ := (id F38)
  have hin39 : ¬ ((0 : Int32) < 0 ∨ cl39.slots.size ≤ ((0 : Int32)).toNatClampNeg) := inb_of Sz39 ⟨by decide, by decide⟩
  obtain ⟨_, _, ⟨T40, L40, k40, n40⟩, -, X40, ⟨Lc40, hQ40, l40, y40, z40⟩, st40⟩ := Jvm.LawKit.callS X34 hx (y := (⟨"com/example/oyster/oyster/engine/LiteralsNumberEndPinLaw", "charOf", "(I)C"⟩ : MethodName)) hown (mvT hZ (hw _ (List.mem_of_getElem? (i := 3) rfl))) (mvT hZ (hw _ (List.mem_of_getElem? (i := 4) rfl))) (mvT hZ (hw _ (List.mem_of_getElem? (i := 5) rfl))) (mvT hZ (hw _ (List.mem_of_getElem? (i := 6) rfl))) (by decide) (backOf (W := 2) (rm1 l Z a0 hw [] zk0 h34 n0 Zs34 ) hZ (hw _ (List.mem_of_getElem? (i := 6) rfl)) (hw _ (List.mem_of_getElem? (i := 5) rfl)) (by decide) (by decide)) (g := (mkF m 67 #[.val (.int p0_0), .val (.int p0_1), .val (.int p0_2), .val (.int p0_3), .val (.ref b1), .val (.ref b34), .unset, .unset, .unset, .unset, .unset] [(.int zk0), (.int (0 : Int32)), (.ref b34)])) rfl (by rw [hml]; rfl) (argsL := [(.int zk0)]) (rest := [(.int (0 : Int32)), (.ref b34)]) (lenOf pd_2 rfl) rfl (by show 2 * 0 + _ ≤ _; exact Nat.le_of_eq rfl) (hb hby at_67) (fun _ _ => ⟨rfl, e34, (by decide : 2 + 0 ≤ _), (by decide : 12 + 0 ≤ _)⟩)
  dsimp only [Pt.U, Pt.locs, Pt.cells, Pt.slots] at X40 l40 y40 z40 st40 hQ40
  rw [l40, y40, z40] at X40
  obtain ⟨rfl, N40q, eh40⟩ := hQ40
  have N40 := Fr.app N30 N40q
  obtain ⟨cl41, Ar41, qc41, Sz41, Nn41, Hh41, Gg41⟩ := (id V34)
  have hin41 : ¬ ((0 : Int32) < 0 ∨ cl41.slots.size ≤ ((0 : Int32)).toNatClampNeg) := inb_of Sz41 ⟨by decide, by decide⟩
  obtain ⟨T41, h41, X41, e41, W41, st41⟩ := stC X40 hx hZ eh40 Ar41 (j := (0 : Int32)) hin41 (g := (mkF m 70 #[.val (.int p0_0), .val (.int p0_1), .val (.int p0_2), .val (.int p0_3), .val (.ref b1), .val (.ref b34), .unset, .unset, .unset, .unset, .unset] [(.int (own_chr zk0)), (.int (0 : Int32)), (.ref b34)])) rfl rfl (hb hby at_70)
  have F42 : Sta Z h41 "java/lang/String" "COMPACT_STRINGS" "Z" (.int cs) := F36.wr W41
  have F43 : Sta Z h41 "jdk/internal/util/Preconditions" "SIOOBE_FORMATTER" "Ljava/util/function/BiFunction;" fm := F37.wr W41
  have F44 : Arv Z h41 b1 k1 .int (6 : Int32) [(.int zk0), (.int zk1), (.int zk2), (.int zk3), (.int zk4), (.int zk5)] (.int (0 : Int32)) := F38.other W41 ne35
  have V41 : Arv Z h41 b34 k34 .char (6 : Int32) [(.int (nar .char (own_chr zk0))), (.int (0 : Int32)), (.int (0 : Int32)), (.int (0 : Int32)), (.int (0 : Int32)), (.int (0 : Int32))] (.int (0 : Int32)) := Arv.set Ar41 qc41 Sz41 Nn41 Hh41 Gg41 (fits_nar_char _) W41 0 rfl (Nat.le_of_ble_eq_true rfl)
  rw [show nar .char (own_chr zk0) = (own_chr zk0) from own_narC _ (own_chr_rng _)] at V41
  have N41 := Fr.snoc X41 N40 gg34
  have Zs41 : n0 ≤ h41.size := by rw [W41.size]; exact Zs34
  obtain ⟨cl46, Ar46, qc46, Sz46, Nn46, Hh46, Gg46⟩ := (id F44)
  have hin46 : ¬ ((1 : Int32) < 0 ∨ cl46.slots.size ≤ ((1 : Int32)).toNatClampNeg) := inb_of Sz46 ⟨by decide, by decide⟩
  obtain ⟨_, _, ⟨T47, L47, k47, n47⟩, -, X47, ⟨Lc47, hQ47, l47, y47, z47⟩, st47⟩ := Jvm.LawKit.callS X41 hx (y := (⟨"com/example/oyster/oyster/engine/LiteralsNumberEndPinLaw", "charOf", "(I)C"⟩ : MethodName)) hown (mvT hZ (hw _ (List.mem_of_getElem? (i := 3) rfl))) (mvT hZ (hw _ (List.mem_of_getElem? (i := 4) rfl))) (mvT hZ (hw _ (List.mem_of_getElem? (i := 5) rfl))) (mvT hZ (hw _ (List.mem_of_getElem? (i := 6) rfl))) (by decide) (backOf (W := 2) (rm1 l Z a0 hw [] zk1 h41 n0 Zs41 ) hZ (hw _ (List.mem_of_getElem? (i := 6) rfl)) (hw _ (List.mem_of_getElem? (i := 5) rfl)) (by decide) (by decide)) (g := (mkF m 78 #[.val (.int p0_0), .val (.int p0_1), .val (.int p0_2), .val (.int p0_3), .val (.ref b1), .val (.ref b34), .unset, .unset, .unset, .unset, .unset] [(.int zk1), (.int (1 : Int32)), (.ref b34)])) rfl (by rw [hml]; rfl) (argsL := [(.int zk1)]) (rest := [(.int (1 : Int32)), (.ref b34)]) (lenOf pd_2 rfl) rfl (by show 2 * 0 + _ ≤ _; exact Nat.le_of_eq rfl) (hb hby at_78) (fun _ _ => ⟨rfl, e41, (by decide : 2 + 0 ≤ _), (by decide : 12 + 0 ≤ _)⟩)
  dsimp only [Pt.U, Pt.locs, Pt.cells, Pt.slots] at X47 l47 y47 z47 st47 hQ47
  rw [l47, y47, z47] at X47
  obtain ⟨rfl, N47q, eh47⟩ := hQ47
  have N47 := Fr.app N41 N47q
  obtain ⟨cl48, Ar48, qc48, Sz48, Nn48, Hh48, Gg48⟩ := (id V41)
  have hin48 : ¬ ((1 : Int32) < 0 ∨ cl48.slots.size ≤ ((1 : Int32)).toNatClampNeg) := inb_of Sz48 ⟨by decide, by decide⟩
  obtain ⟨T48, h48, X48, e48, W48, st48⟩ := stC X47 hx hZ eh47 Ar48 (j := (1 : Int32)) hin48 (g := (mkF m 81 #[.val (.int p0_0), .val (.int p0_1), .val (.int p0_2), .val (.int p0_3), .val (.ref b1), .val (.ref b34), .unset, .unset, .unset, .unset, .unset] [(.int (own_chr zk1)), (.int (1 : Int32)), (.ref b34)])) rfl rfl (hb hby at_81)
  have F49 : Sta Z h48 "java/lang/String" "COMPACT_STRINGS" "Z" (.int cs) := F42.wr W48
  have F50 : Sta Z h48 "jdk/internal/util/Preconditions" "SIOOBE_FORMATTER" "Ljava/util/function/BiFunction;" fm := F43.wr W48
  have F51 : Arv Z h48 b1 k1 .int (6 : Int32) [(.int zk0), (.int zk1), (.int zk2), (.int zk3), (.int zk4), (.int zk5)] (.int (0 : Int32)) := F44.other W48 ne35
  have V48 : Arv Z h48 b34 k34 .char (6 : Int32) [(.int (own_chr zk0)), (.int (nar .char (own_chr zk1))), (.int (0 : Int32)), (.int (0 : Int32)), (.int (0 : Int32)), (.int (0 : Int32))] (.int (0 : Int32)) := Arv.set Ar48 qc48 Sz48 Nn48 Hh48 Gg48 (fits_nar_char _) W48 1 rfl (Nat.le_of_ble_eq_true rfl)
  rw [show nar .char (own_chr zk1) = (own_chr zk1) from own_narC _ (own_chr_rng _)] at V48
  have N48 := Fr.snoc X48 N47 gg34
  have Zs48 : n0 ≤ h48.size := by rw [W48.size]; exact Zs41
  obtain ⟨cl53, Ar53, qc53, Sz53, Nn53, Hh53, Gg53⟩ := (id F51)
  have hin53 : ¬ ((2 : Int32) < 0 ∨ cl53.slots.size ≤ ((2 : Int32)).toNatClampNeg) := inb_of Sz53 ⟨by decide, by decide⟩
  obtain ⟨_, _, ⟨T54, L54, k54, n54⟩, -, X54, ⟨Lc54, hQ54, l54, y54, z54⟩, st54⟩ := Jvm.LawKit.callS X48 hx (y := (⟨"com/example/oyster/oyster/engine/LiteralsNumberEndPinLaw", "charOf", "(I)C"⟩ : MethodName)) hown (mvT hZ (hw _ (List.mem_of_getElem? (i := 3) rfl))) (mvT hZ (hw _ (List.mem_of_getElem? (i := 4) rfl))) (mvT hZ (hw _ (List.mem_of_getElem? (i := 5) rfl))) (mvT hZ (hw _ (List.mem_of_getElem? (i := 6) rfl))) (by decide) (backOf (W := 2) (rm1 l Z a0 hw [] zk2 h48 n0 Zs48 ) hZ (hw _ (List.mem_of_getElem? (i := 6) rfl)) (hw _ (List.mem_of_getElem? (i := 5) rfl)) (by decide) (by decide)) (g := (mkF m 89 #[.val (.int p0_0), .val (.int p0_1), .val (.int p0_2), .val (.int p0_3), .val (.ref b1), .val (.ref b34), .unset, .unset, .unset, .unset, .unset] [(.int zk2), (.int (2 : Int32)), (.ref b34)])) rfl (by rw [hml]; rfl) (argsL := [(.int zk2)]) (rest := [(.int (2 : Int32)), (.ref b34)]) (lenOf pd_2 rfl) rfl (by show 2 * 0 + _ ≤ _; exact Nat.le_of_eq rfl) (hb hby at_89) (fun _ _ => ⟨rfl, e48, (by decide : 2 + 0 ≤ _), (by decide : 12 + 0 ≤ _)⟩)
  dsimp only [Pt.U, Pt.locs, Pt.cells, Pt.slots] at X54 l54 y54 z54 st54 hQ54
  rw [l54, y54, z54] at X54
  obtain ⟨rfl, N54q, eh54⟩ := hQ54
  have N54 := Fr.app N48 N54q
  obtain ⟨cl55, Ar55, qc55, Sz55, Nn55, Hh55, Gg55⟩ := (id V48)
  have hin55 : ¬ ((2 : Int32) < 0 ∨ cl55.slots.size ≤ ((2 : Int32)).toNatClampNeg) := inb_of Sz55 ⟨by decide, by decide⟩
  obtain ⟨T55, h55, X55, e55, W55, st55⟩ := stC X54 hx hZ eh54 Ar55 (j := (2 : Int32)) hin55 (g := (mkF m 92 #[.val (.int p0_0), .val (.int p0_1), .val (.int p0_2), .val (.int p0_3), .val (.ref b1), .val (.ref b34), .unset, .unset, .unset, .unset, .unset] [(.int (own_chr zk2)), (.int (2 : Int32)), (.ref b34)])) rfl rfl (hb hby at_92)
  have F56 : Sta Z h55 "java/lang/String" "COMPACT_STRINGS" "Z" (.int cs) := F49.wr W55
  have F57 : Sta Z h55 "jdk/internal/util/Preconditions" "SIOOBE_FORMATTER" "Ljava/util/function/BiFunction;" fm := F50.wr W55
  have F58 : Arv Z h55 b1 k1 .int (6 : Int32) [(.int zk0), (.int zk1), (.int zk2), (.int zk3), (.int zk4), (.int zk5)] (.int (0 : Int32)) := F51.other W55 ne35
  have V55 : Arv Z h55 b34 k34 .char (6 : Int32) [(.int (own_chr zk0)), (.int (own_chr zk1)), (.int (nar .char (own_chr zk2))), (.int (0 : Int32)), (.int (0 : Int32)), (.int (0 : Int32))] (.int (0 : Int32)) := Arv.set Ar55 qc55 Sz55 Nn55 Hh55 Gg55 (fits_nar_char _) W55 2 rfl (Nat.le_of_ble_eq_true rfl)
  rw [show nar .char (own_chr zk2) = (own_chr zk2) from own_narC _ (own_chr_rng _)] at V55
  have N55 := Fr.snoc X55 N54 gg34
  have Zs55 : n0 ≤ h55.size := by rw [W55.size]; exact Zs48
  obtain ⟨cl60, Ar60, qc60, Sz60, Nn60, Hh60, Gg60⟩ := (id F58)
  have hin60 : ¬ ((3 : Int32) < 0 ∨ cl60.slots.size ≤ ((3 : Int32)).toNatClampNeg) := inb_of Sz60 ⟨by decide, by decide⟩
  obtain ⟨_, _, ⟨T61, L61, k61, n61⟩, -, X61, ⟨Lc61, hQ61, l61, y61, z61⟩, st61⟩ := Jvm.LawKit.callS X55 hx (y := (⟨"com/example/oyster/oyster/engine/LiteralsNumberEndPinLaw", "charOf", "(I)C"⟩ : MethodName)) hown (mvT hZ (hw _ (List.mem_of_getElem? (i := 3) rfl))) (mvT hZ (hw _ (List.mem_of_getElem? (i := 4) rfl))) (mvT hZ (hw _ (List.mem_of_getElem? (i := 5) rfl))) (mvT hZ (hw _ (List.mem_of_getElem? (i := 6) rfl))) (by decide) (backOf (W := 2) (rm1 l Z a0 hw [] zk3 h55 n0 Zs55 ) hZ (hw _ (List.mem_of_getElem? (i := 6) rfl)) (hw _ (List.mem_of_getElem? (i := 5) rfl)) (by decide) (by decide)) (g := (mkF m 100 #[.val (.int p0_0), .val (.int p0_1), .val (.int p0_2), .val (.int p0_3), .val (.ref b1), .val (.ref b34), .unset, .unset, .unset, .unset, .unset] [(.int zk3), (.int (3 : Int32)), (.ref b34)])) rfl (by rw [hml]; rfl) (argsL := [(.int zk3)]) (rest := [(.int (3 : Int32)), (.ref b34)]) (lenOf pd_2 rfl) rfl (by show 2 * 0 + _ ≤ _; exact Nat.le_of_eq rfl) (hb hby at_100) (fun _ _ => ⟨rfl, e55, (by decide : 2 + 0 ≤ _), (by decide : 12 + 0 ≤ _)⟩)
  dsimp only [Pt.U, Pt.locs, Pt.cells, Pt.slots] at X61 l61 y61 z61 st61 hQ61
  rw [l61, y61, z61] at X61
  obtain ⟨rfl, N61q, eh61⟩ := hQ61
  have N61 := Fr.app N55 N61q
  obtain ⟨cl62, Ar62, qc62, Sz62, Nn62, Hh62, Gg62⟩ := (id V55)
  have hin62 : ¬ ((3 : Int32) < 0 ∨ cl62.slots.size ≤ ((3 : Int32)).toNatClampNeg) := inb_of Sz62 ⟨by decide, by decide⟩
  obtain ⟨T62, h62, X62, e62, W62, st62⟩ := stC X61 hx hZ eh61 Ar62 (j := (3 : Int32)) hin62 (g := (mkF m 103 #[.val (.int p0_0), .val (.int p0_1), .val (.int p0_2), .val (.int p0_3), .val (.ref b1), .val (.ref b34), .unset, .unset, .unset, .unset, .unset] [(.int (own_chr zk3)), (.int (3 : Int32)), (.ref b34)])) rfl rfl (hb hby at_103)
  have F63 : Sta Z h62 "java/lang/String" "COMPACT_STRINGS" "Z" (.int cs) := F56.wr W62
  have F64 : Sta Z h62 "jdk/internal/util/Preconditions" "SIOOBE_FORMATTER" "Ljava/util/function/BiFunction;" fm := F57.wr W62
  have F65 : Arv Z h62 b1 k1 .int (6 : Int32) [(.int zk0), (.int zk1), (.int zk2), (.int zk3), (.int zk4), (.int zk5)] (.int (0 : Int32)) := F58.other W62 ne35
  have V62 : Arv Z h62 b34 k34 .char (6 : Int32) [(.int (own_chr zk0)), (.int (own_chr zk1)), (.int (own_chr zk2)), (.int (nar .char (own_chr zk3))), (.int (0 : Int32)), (.int (0 : Int32))] (.int (0 : Int32)) := Arv.set Ar62 qc62 Sz62 Nn62 Hh62 Gg62 (fits_nar_char _) W62 3 rfl (Nat.le_of_ble_eq_true rfl)
  rw [show nar .char (own_chr zk3) = (own_chr zk3) from own_narC _ (own_chr_rng _)] at V62
  have N62 := Fr.snoc X62 N61 gg34
  have Zs62 : n0 ≤ h62.size := by rw [W62.size]; exact Zs55
  obtain ⟨cl67, Ar67, qc67, Sz67, Nn67, Hh67, Gg67⟩ := (id F65)
  have hin67 : ¬ ((4 : Int32) < 0 ∨ cl67.slots.size ≤ ((4 : Int32)).toNatClampNeg) := inb_of Sz67 ⟨by decide, by decide⟩
  obtain ⟨_, _, ⟨T68, L68, k68, n68⟩, -, X68, ⟨Lc68, hQ68, l68, y68, z68⟩, st68⟩ := Jvm.LawKit.callS X62 hx (y := (⟨"com/example/oyster/oyster/engine/LiteralsNumberEndPinLaw", "charOf", "(I)C"⟩ : MethodName)) hown (mvT hZ (hw _ (List.mem_of_getElem? (i := 3) rfl))) (mvT hZ (hw _ (List.mem_of_getElem? (i := 4) rfl))) (mvT hZ (hw _ (List.mem_of_getElem? (i := 5) rfl))) (mvT hZ (hw _ (List.mem_of_getElem? (i := 6) rfl))) (by decide) (backOf (W := 2) (rm1 l Z a0 hw [] zk4 h62 n0 Zs62 ) hZ (hw _ (List.mem_of_getElem? (i := 6) rfl)) (hw _ (List.mem_of_getElem? (i := 5) rfl)) (by decide) (by decide)) (g := (mkF m 111 #[.val (.int p0_0), .val (.int p0_1), .val (.int p0_2), .val (.int p0_3), .val (.ref b1), .val (.ref b34), .unset, .unset, .unset, .unset, .unset] [(.int zk4), (.int (4 : Int32)), (.ref b34)])) rfl (by rw [hml]; rfl) (argsL := [(.int zk4)]) (rest := [(.int (4 : Int32)), (.ref b34)]) (lenOf pd_2 rfl) rfl (by show 2 * 0 + _ ≤ _; exact Nat.le_of_eq rfl) (hb hby at_111) (fun _ _ => ⟨rfl, e62, (by decide : 2 + 0 ≤ _), (by decide : 12 + 0 ≤ _)⟩)
  dsimp only [Pt.U, Pt.locs, Pt.cells, Pt.slots] at X68 l68 y68 z68 st68 hQ68
  rw [l68, y68, z68] at X68
  obtain ⟨rfl, N68q, eh68⟩ := hQ68
  have N68 := Fr.app N62 N68q
  obtain ⟨cl69, Ar69, qc69, Sz69, Nn69, Hh69, Gg69⟩ := (id V62)
  have hin69 : ¬ ((4 : Int32) < 0 ∨ cl69.slots.size ≤ ((4 : Int32)).toNatClampNeg) := inb_of Sz69 ⟨by decide, by decide⟩
  obtain ⟨T69, h69, X69, e69, W69, st69⟩ := stC X68 hx hZ eh68 Ar69 (j := (4 : Int32)) hin69 (g := (mkF m 114 #[.val (.int p0_0), .val (.int p0_1), .val (.int p0_2), .val (.int p0_3), .val (.ref b1), .val (.ref b34), .unset, .unset, .unset, .unset, .unset] [(.int (own_chr zk4)), (.int (4 : Int32)), (.ref b34)])) rfl rfl (hb hby at_114)
  have F70 : Sta Z h69 "java/lang/String" "COMPACT_STRINGS" "Z" (.int cs) := F63.wr W69
  have F71 : Sta Z h69 "jdk/internal/util/Preconditions" "SIOOBE_FORMATTER" "Ljava/util/function/BiFunction;" fm := F64.wr W69
  have F72 : Arv Z h69 b1 k1 .int (6 : Int32) [(.int zk0), (.int zk1), (.int zk2), (.int zk3), (.int zk4), (.int zk5)] (.int (0 : Int32)) := F65.other W69 ne35
  have V69 : Arv Z h69 b34 k34 .char (6 : Int32) [(.int (own_chr zk0)), (.int (own_chr zk1)), (.int (own_chr zk2)), (.int (own_chr zk3)), (.int (nar .char (own_chr zk4))), (.int (0 : Int32))] (.int (0 : Int32)) := Arv.set Ar69 qc69 Sz69 Nn69 Hh69 Gg69 (fits_nar_char _) W69 4 rfl (Nat.le_of_ble_eq_true rfl)
  rw [show nar .char (own_chr zk4) = (own_chr zk4) from own_narC _ (own_chr_rng _)] at V69
  have N69 := Fr.snoc X69 N68 gg34
  have Zs69 : n0 ≤ h69.size := by rw [W69.size]; exact Zs62
  obtain ⟨cl74, Ar74, qc74, Sz74, Nn74, Hh74, Gg74⟩ := (id F72)
  have hin74 : ¬ ((5 : Int32) < 0 ∨ cl74.slots.size ≤ ((5 : Int32)).toNatClampNeg) := inb_of Sz74 ⟨by decide, by decide⟩
  obtain ⟨_, _, ⟨T75, L75, k75, n75⟩, -, X75, ⟨Lc75, hQ75, l75, y75, z75⟩, st75⟩ := Jvm.LawKit.callS X69 hx (y := (⟨"com/example/oyster/oyster/engine/LiteralsNumberEndPinLaw", "charOf", "(I)C"⟩ : MethodName)) hown (mvT hZ (hw _ (List.mem_of_getElem? (i := 3) rfl))) (mvT hZ (hw _ (List.mem_of_getElem? (i := 4) rfl))) (mvT hZ (hw _ (List.mem_of_getElem? (i := 5) rfl))) (mvT hZ (hw _ (List.mem_of_getElem? (i := 6) rfl))) (by decide) (backOf (W := 2) (rm1 l Z a0 hw [] zk5 h69 n0 Zs69 ) hZ (hw _ (List.mem_of_getElem? (i := 6) rfl)) (hw _ (List.mem_of_getElem? (i := 5) rfl)) (by decide) (by decide)) (g := (mkF m 122 #[.val (.int p0_0), .val (.int p0_1), .val (.int p0_2), .val (.int p0_3), .val (.ref b1), .val (.ref b34), .unset, .unset, .unset, .unset, .unset] [(.int zk5), (.int (5 : Int32)), (.ref b34)])) rfl (by rw [hml]; rfl) (argsL := [(.int zk5)]) (rest := [(.int (5 : Int32)), (.ref b34)]) (lenOf pd_2 rfl) rfl (by show 2 * 0 + _ ≤ _; exact Nat.le_of_eq rfl) (hb hby at_122) (fun _ _ => ⟨rfl, e69, (by decide : 2 + 0 ≤ _), (by decide : 12 + 0 ≤ _)⟩)
  dsimp only [Pt.U, Pt.locs, Pt.cells, Pt.slots] at X75 l75 y75 z75 st75 hQ75
  rw [l75, y75, z75] at X75
  obtain ⟨rfl, N75q, eh75⟩ := hQ75
  have N75 := Fr.app N69 N75q
  obtain ⟨cl76, Ar76, qc76, Sz76, Nn76, Hh76, Gg76⟩ := (id V69)
  have hin76 : ¬ ((5 : Int32) < 0 ∨ cl76.slots.size ≤ ((5 : Int32)).toNatClampNeg) := inb_of Sz76 ⟨by decide, by decide⟩
  obtain ⟨T76, h76, X76, e76, W76, st76⟩ := stC X75 hx hZ eh75 Ar76 (j := (5 : Int32)) hin76 (g := (mkF m 125 #[.val (.int p0_0), .val (.int p0_1), .val (.int p0_2), .val (.int p0_3), .val (.ref b1), .val (.ref b34), .unset, .unset, .unset, .unset, .unset] [(.int (own_chr zk5)), (.int (5 : Int32)), (.ref b34)])) rfl rfl (hb hby at_125)
  have F77 : Sta Z h76 "java/lang/String" "COMPACT_STRINGS" "Z" (.int cs) := F70.wr W76
  have F78 : Sta Z h76 "jdk/internal/util/Preconditions" "SIOOBE_FORMATTER" "Ljava/util/function/BiFunction;" fm := F71.wr W76
  have F79 : Arv Z h76 b1 k1 .int (6 : Int32) [(.int zk0), (.int zk1), (.int zk2), (.int zk3), (.int zk4), (.int zk5)] (.int (0 : Int32)) := F72.other W76 ne35
  have V76 : Arv Z h76 b34 k34 .char (6 : Int32) [(.int (own_chr zk0)), (.int (own_chr zk1)), (.int (own_chr zk2)), (.int (own_chr zk3)), (.int (own_chr zk4)), (.int (nar .char (own_chr zk5)))] (.int (0 : Int32)) := Arv.set Ar76 qc76 Sz76 Nn76 Hh76 Gg76 (fits_nar_char _) W76 5 rfl (Nat.le_of_ble_eq_true rfl)
  rw [show nar .char (own_chr zk5) = (own_chr zk5) from own_narC _ (own_chr_rng _)] at V76
  have N76 := Fr.snoc X76 N75 gg34
  have Zs76 : n0 ≤ h76.size := by rw [W76.size]; exact Zs69
  have k81 : ∀ t, Steps p.tables e below (T76.setTop (mkF m 133 #[.val (.int p0_0), .val (.int p0_1), .val (.int p0_2), .val (.int p0_3), .val (.ref b1), .val (.ref b34), .unset, .unset, .unset, .unset, .unset] [(.int ((p0_3 &&& (2147483647 : Int32)) % (6 : Int32)))])) t → Steps p.tables e below (s₁.setTop (entryFrame m #[(.int p0_0), (.int p0_1), (.int p0_2), (.int p0_3)] maxLocals)) t := by
    intro t k
    refine k29 t ?_
    show Steps p.tables e below (T25.setTop (mkF m 53 #[.val (.int p0_0), .val (.int p0_1), .val (.int p0_2), .val (.int p0_3), .val (.ref b1), .unset, .unset, .unset, .unset, .unset, .unset] [(.int zk5), (.int (5 : Int32)), (.ref b1)])) _
    refine st30 _ ?_
    show Steps p.tables e below (T30.setTop (mkF m 54 #[.val (.int p0_0), .val (.int p0_1), .val (.int p0_2), .val (.int p0_3), .val (.ref b1), .unset, .unset, .unset, .unset, .unset, .unset] [])) _
    refine XS.bipush X30.here hx rfl (hb hby at_54) ?_
    show Steps p.tables e below (T30.setTop (mkF m 56 #[.val (.int p0_0), .val (.int p0_1), .val (.int p0_2), .val (.int p0_3), .val (.ref b1), .unset, .unset, .unset, .unset, .unset, .unset] [(.int (6 : Int32))])) _
    refine st34 _ ?_
    show Steps p.tables e below (T34.setTop (mkF m 58 #[.val (.int p0_0), .val (.int p0_1), .val (.int p0_2), .val (.int p0_3), .val (.ref b1), .unset, .unset, .unset, .unset, .unset, .unset] [(.ref b34)])) _
    refine XS.astore X34.here hx rfl (hb hby at_58) rfl rfl (l' := #[.val (.int p0_0), .val (.int p0_1), .val (.int p0_2), .val (.int p0_3), .val (.ref b1), .val (.ref b34), .unset, .unset, .unset, .unset, .unset]) rfl ?_
    show Steps p.tables e below (T34.setTop (mkF m 60 #[.val (.int p0_0), .val (.int p0_1), .val (.int p0_2), .val (.int p0_3), .val (.ref b1), .val (.ref b34), .unset, .unset, .unset, .unset, .unset] [])) _
    refine XS.aload X34.here hx rfl (hb hby at_60) rfl rfl ?_
    show Steps p.tables e below (T34.setTop (mkF m 62 #[.val (.int p0_0), .val (.int p0_1), .val (.int p0_2), .val (.int p0_3), .val (.ref b1), .val (.ref b34), .unset, .unset, .unset, .unset, .unset] [(.ref b34)])) _
    refine XS.iconst X34.here hx rfl (hb hby at_62) ?_
    show Steps p.tables e below (T34.setTop (mkF m 63 #[.val (.int p0_0), .val (.int p0_1), .val (.int p0_2), .val (.int p0_3), .val (.ref b1), .val (.ref b34), .unset, .unset, .unset, .unset, .unset] [(.int (0 : Int32)), (.ref b34)])) _
    refine XS.aload X34.here hx rfl (hb hby at_63) rfl rfl ?_
    show Steps p.tables e below (T34.setTop (mkF m 65 #[.val (.int p0_0), .val (.int p0_1), .val (.int p0_2), .val (.int p0_3), .val (.ref b1), .val (.ref b34), .unset, .unset, .unset, .unset, .unset] [(.ref b1), (.int (0 : Int32)), (.ref b34)])) _
    refine XS.iconst X34.here hx rfl (hb hby at_65) ?_
    show Steps p.tables e below (T34.setTop (mkF m 66 #[.val (.int p0_0), .val (.int p0_1), .val (.int p0_2), .val (.int p0_3), .val (.ref b1), .val (.ref b34), .unset, .unset, .unset, .unset, .unset] [(.int (0 : Int32)), (.ref b1), (.int (0 : Int32)), (.ref b34)])) _
    refine X34.iaload hx (j := (0 : Int32)) (v := (.int zk0)) (by rw [e34]; exact Ar39.1) (State.isArrayOf_alike hZ.alike Ar39.2.1) Ar39.2.2 hin39 (Hh39.at hin39 rfl) (g := (mkF m 66 #[.val (.int p0_0), .val (.int p0_1), .val (.int p0_2), .val (.int p0_3), .val (.ref b1), .val (.ref b34), .unset, .unset, .unset, .unset, .unset] [(.int (0 : Int32)), (.ref b1), (.int (0 : Int32)), (.ref b34)])) rfl rfl (hb hby at_66) _ ?_
    show Steps p.tables e below (T34.setTop (mkF m 67 #[.val (.int p0_0), .val (.int p0_1), .val (.int p0_2), .val (.int p0_3), .val (.ref b1), .val (.ref b34), .unset, .unset, .unset, .unset, .unset] [(.int zk0), (.int (0 : Int32)), (.ref b34)])) _
    refine st40 _ ?_
    show Steps p.tables e below (T40.setTop (mkF m 70 #[.val (.int p0_0), .val (.int p0_1), .val (.int p0_2), .val (.int p0_3), .val (.ref b1), .val (.ref b34), .unset, .unset, .unset, .unset, .unset] [(.int (own_chr zk0)), (.int (0 : Int32)), (.ref b34)])) _
    refine st41 _ ?_
    show Steps p.tables e below (T41.setTop (mkF m 71 #[.val (.int p0_0), .val (.int p0_1), .val (.int p0_2), .val (.int p0_3), .val (.ref b1), .val (.ref b34), .unset, .unset, .unset, .unset, .unset] [])) _
    refine XS.aload X41.here hx rfl (hb hby at_71) rfl rfl ?_
    show Steps p.tables e below (T41.setTop (mkF m 73 #[.val (.int p0_0), .val (.int p0_1), .val (.int p0_2), .val (.int p0_3), .val (.ref b1), .val (.ref b34), .unset, .unset, .unset, .unset, .unset] [(.ref b34)])) _
    refine XS.iconst X41.here hx rfl (hb hby at_73) ?_
    show Steps p.tables e below (T41.setTop (mkF m 74 #[.val (.int p0_0), .val (.int p0_1), .val (.int p0_2), .val (.int p0_3), .val (.ref b1), .val (.ref b34), .unset, .unset, .unset, .unset, .unset] [(.int (1 : Int32)), (.ref b34)])) _
    refine XS.aload X41.here hx rfl (hb hby at_74) rfl rfl ?_
    show Steps p.tables e below (T41.setTop (mkF m 76 #[.val (.int p0_0), .val (.int p0_1), .val (.int p0_2), .val (.int p0_3), .val (.ref b1), .val (.ref b34), .unset, .unset, .unset, .unset, .unset] [(.ref b1), (.int (1 : Int32)), (.ref b34)])) _
    refine XS.iconst X41.here hx rfl (hb hby at_76) ?_
    show Steps p.tables e below (T41.setTop (mkF m 77 #[.val (.int p0_0), .val (.int p0_1), .val (.int p0_2), .val (.int p0_3), .val (.ref b1), .val (.ref b34), .unset, .unset, .unset, .unset, .unset] [(.int (1 : Int32)), (.ref b1), (.int (1 : Int32)), (.ref b34)])) _
    refine X41.iaload hx (j := (1 : Int32)) (v := (.int zk1)) (by rw [e41]; exact Ar46.1) (State.isArrayOf_alike hZ.alike Ar46.2.1) Ar46.2.2 hin46 (Hh46.at hin46 rfl) (g := (mkF m 77 #[.val (.int p0_0), .val (.int p0_1), .val (.int p0_2), .val (.int p0_3), .val (.ref b1), .val (.ref b34), .unset, .unset, .unset, .unset, .unset] [(.int (1 : Int32)), (.ref b1), (.int (1 : Int32)), (.ref b34)])) rfl rfl (hb hby at_77) _ ?_
    show Steps p.tables e below (T41.setTop (mkF m 78 #[.val (.int p0_0), .val (.int p0_1), .val (.int p0_2), .val (.int p0_3), .val (.ref b1), .val (.ref b34), .unset, .unset, .unset, .unset, .unset] [(.int zk1), (.int (1 : Int32)), (.ref b34)])) _
    refine st47 _ ?_
    show Steps p.tables e below (T47.setTop (mkF m 81 #[.val (.int p0_0), .val (.int p0_1), .val (.int p0_2), .val (.int p0_3), .val (.ref b1), .val (.ref b34), .unset, .unset, .unset, .unset, .unset] [(.int (own_chr zk1)), (.int (1 : Int32)), (.ref b34)])) _
    refine st48 _ ?_
    show Steps p.tables e below (T48.setTop (mkF m 82 #[.val (.int p0_0), .val (.int p0_1), .val (.int p0_2), .val (.int p0_3), .val (.ref b1), .val (.ref b34), .unset, .unset, .unset, .unset, .unset] [])) _
    refine XS.aload X48.here hx rfl (hb hby at_82) rfl rfl ?_
    show Steps p.tables e below (T48.setTop (mkF m 84 #[.val (.int p0_0), .val (.int p0_1), .val (.int p0_2), .val (.int p0_3), .val (.ref b1), .val (.ref b34), .unset, .unset, .unset, .unset, .unset] [(.ref b34)])) _
    refine XS.iconst X48.here hx rfl (hb hby at_84) ?_
    show Steps p.tables e below (T48.setTop (mkF m 85 #[.val (.int p0_0), .val (.int p0_1), .val (.int p0_2), .val (.int p0_3), .val (.ref b1), .val (.ref b34), .unset, .unset, .unset, .unset, .unset] [(.int (2 : Int32)), (.ref b34)])) _
    refine XS.aload X48.here hx rfl (hb hby at_85) rfl rfl ?_
    show Steps p.tables e below (T48.setTop (mkF m 87 #[.val (.int p0_0), .val (.int p0_1), .val (.int p0_2), .val (.int p0_3), .val (.ref b1), .val (.ref b34), .unset, .unset, .unset, .unset, .unset] [(.ref b1), (.int (2 : Int32)), (.ref b34)])) _
    refine XS.iconst X48.here hx rfl (hb hby at_87) ?_
    show Steps p.tables e below (T48.setTop (mkF m 88 #[.val (.int p0_0), .val (.int p0_1), .val (.int p0_2), .val (.int p0_3), .val (.ref b1), .val (.ref b34), .unset, .unset, .unset, .unset, .unset] [(.int (2 : Int32)), (.ref b1), (.int (2 : Int32)), (.ref b34)])) _
    refine X48.iaload hx (j := (2 : Int32)) (v := (.int zk2)) (by rw [e48]; exact Ar53.1) (State.isArrayOf_alike hZ.alike Ar53.2.1) Ar53.2.2 hin53 (Hh53.at hin53 rfl) (g := (mkF m 88 #[.val (.int p0_0), .val (.int p0_1), .val (.int p0_2), .val (.int p0_3), .val (.ref b1), .val (.ref b34), .unset, .unset, .unset, .unset, .unset] [(.int (2 : Int32)), (.ref b1), (.int (2 : Int32)), (.ref b34)])) rfl rfl (hb hby at_88) _ ?_
    show Steps p.tables e below (T48.setTop (mkF m 89 #[.val (.int p0_0), .val (.int p0_1), .val (.int p0_2), .val (.int p0_3), .val (.ref b1), .val (.ref b34), .unset, .unset, .unset, .unset, .unset] [(.int zk2), (.int (2 : Int32)), (.ref b34)])) _
    refine st54 _ ?_
    show Steps p.tables e below (T54.setTop (mkF m 92 #[.val (.int p0_0), .val (.int p0_1), .val (.int p0_2), .val (.int p0_3), .val (.ref b1), .val (.ref b34), .unset, .unset, .unset, .unset, .unset] [(.int (own_chr zk2)), (.int (2 : Int32)), (.ref b34)])) _
    refine st55 _ ?_
    show Steps p.tables e below (T55.setTop (mkF m 93 #[.val (.int p0_0), .val (.int p0_1), .val (.int p0_2), .val (.int p0_3), .val (.ref b1), .val (.ref b34), .unset, .unset, .unset, .unset, .unset] [])) _
    refine XS.aload X55.here hx rfl (hb hby at_93) rfl rfl ?_
    show Steps p.tables e below (T55.setTop (mkF m 95 #[.val (.int p0_0), .val (.int p0_1), .val (.int p0_2), .val (.int p0_3), .val (.ref b1), .val (.ref b34), .unset, .unset, .unset, .unset, .unset] [(.ref b34)])) _
    refine XS.iconst X55.here hx rfl (hb hby at_95) ?_
    show Steps p.tables e below (T55.setTop (mkF m 96 #[.val (.int p0_0), .val (.int p0_1), .val (.int p0_2), .val (.int p0_3), .val (.ref b1), .val (.ref b34), .unset, .unset, .unset, .unset, .unset] [(.int (3 : Int32)), (.ref b34)])) _
    refine XS.aload X55.here hx rfl (hb hby at_96) rfl rfl ?_
    show Steps p.tables e below (T55.setTop (mkF m 98 #[.val (.int p0_0), .val (.int p0_1), .val (.int p0_2), .val (.int p0_3), .val (.ref b1), .val (.ref b34), .unset, .unset, .unset, .unset, .unset] [(.ref b1), (.int (3 : Int32)), (.ref b34)])) _
    refine XS.iconst X55.here hx rfl (hb hby at_98) ?_
    show Steps p.tables e below (T55.setTop (mkF m 99 #[.val (.int p0_0), .val (.int p0_1), .val (.int p0_2), .val (.int p0_3), .val (.ref b1), .val (.ref b34), .unset, .unset, .unset, .unset, .unset] [(.int (3 : Int32)), (.ref b1), (.int (3 : Int32)), (.ref b34)])) _
    refine X55.iaload hx (j := (3 : Int32)) (v := (.int zk3)) (by rw [e55]; exact Ar60.1) (State.isArrayOf_alike hZ.alike Ar60.2.1) Ar60.2.2 hin60 (Hh60.at hin60 rfl) (g := (mkF m 99 #[.val (.int p0_0), .val (.int p0_1), .val (.int p0_2), .val (.int p0_3), .val (.ref b1), .val (.ref b34), .unset, .unset, .unset, .unset, .unset] [(.int (3 : Int32)), (.ref b1), (.int (3 : Int32)), (.ref b34)])) rfl rfl (hb hby at_99) _ ?_
    show Steps p.tables e below (T55.setTop (mkF m 100 #[.val (.int p0_0), .val (.int p0_1), .val (.int p0_2), .val (.int p0_3), .val (.ref b1), .val (.ref b34), .unset, .unset, .unset, .unset, .unset] [(.int zk3), (.int (3 : Int32)), (.ref b34)])) _
    refine st61 _ ?_
    show Steps p.tables e below (T61.setTop (mkF m 103 #[.val (.int p0_0), .val (.int p0_1), .val (.int p0_2), .val (.int p0_3), .val (.ref b1), .val (.ref b34), .unset, .unset, .unset, .unset, .unset] [(.int (own_chr zk3)), (.int (3 : Int32)), (.ref b34)])) _
    refine st62 _ ?_
    show Steps p.tables e below (T62.setTop (mkF m 104 #[.val (.int p0_0), .val (.int p0_1), .val (.int p0_2), .val (.int p0_3), .val (.ref b1), .val (.ref b34), .unset, .unset, .unset, .unset, .unset] [])) _
    refine XS.aload X62.here hx rfl (hb hby at_104) rfl rfl ?_
    show Steps p.tables e below (T62.setTop (mkF m 106 #[.val (.int p0_0), .val (.int p0_1), .val (.int p0_2), .val (.int p0_3), .val (.ref b1), .val (.ref b34), .unset, .unset, .unset, .unset, .unset] [(.ref b34)])) _
    refine XS.iconst X62.here hx rfl (hb hby at_106) ?_
    show Steps p.tables e below (T62.setTop (mkF m 107 #[.val (.int p0_0), .val (.int p0_1), .val (.int p0_2), .val (.int p0_3), .val (.ref b1), .val (.ref b34), .unset, .unset, .unset, .unset, .unset] [(.int (4 : Int32)), (.ref b34)])) _
    refine XS.aload X62.here hx rfl (hb hby at_107) rfl rfl ?_
    show Steps p.tables e below (T62.setTop (mkF m 109 #[.val (.int p0_0), .val (.int p0_1), .val (.int p0_2), .val (.int p0_3), .val (.ref b1), .val (.ref b34), .unset, .unset, .unset, .unset, .unset] [(.ref b1), (.int (4 : Int32)), (.ref b34)])) _
    refine XS.iconst X62.here hx rfl (hb hby at_109) ?_
    show Steps p.tables e below (T62.setTop (mkF m 110 #[.val (.int p0_0), .val (.int p0_1), .val (.int p0_2), .val (.int p0_3), .val (.ref b1), .val (.ref b34), .unset, .unset, .unset, .unset, .unset] [(.int (4 : Int32)), (.ref b1), (.int (4 : Int32)), (.ref b34)])) _
    refine X62.iaload hx (j := (4 : Int32)) (v := (.int zk4)) (by rw [e62]; exact Ar67.1) (State.isArrayOf_alike hZ.alike Ar67.2.1) Ar67.2.2 hin67 (Hh67.at hin67 rfl) (g := (mkF m 110 #[.val (.int p0_0), .val (.int p0_1), .val (.int p0_2), .val (.int p0_3), .val (.ref b1), .val (.ref b34), .unset, .unset, .unset, .unset, .unset] [(.int (4 : Int32)), (.ref b1), (.int (4 : Int32)), (.ref b34)])) rfl rfl (hb hby at_110) _ ?_
    show Steps p.tables e below (T62.setTop (mkF m 111 #[.val (.int p0_0), .val (.int p0_1), .val (.int p0_2), .val (.int p0_3), .val (.ref b1), .val (.ref b34), .unset, .unset, .unset, .unset, .unset] [(.int zk4), (.int (4 : Int32)), (.ref b34)])) _
    refine st68 _ ?_
    show Steps p.tables e below (T68.setTop (mkF m 114 #[.val (.int p0_0), .val (.int p0_1), .val (.int p0_2), .val (.int p0_3), .val (.ref b1), .val (.ref b34), .unset, .unset, .unset, .unset, .unset] [(.int (own_chr zk4)), (.int (4 : Int32)), (.ref b34)])) _
    refine st69 _ ?_
    show Steps p.tables e below (T69.setTop (mkF m 115 #[.val (.int p0_0), .val (.int p0_1), .val (.int p0_2), .val (.int p0_3), .val (.ref b1), .val (.ref b34), .unset, .unset, .unset, .unset, .unset] [])) _
    refine XS.aload X69.here hx rfl (hb hby at_115) rfl rfl ?_
    show Steps p.tables e below (T69.setTop (mkF m 117 #[.val (.int p0_0), .val (.int p0_1), .val (.int p0_2), .val (.int p0_3), .val (.ref b1), .val (.ref b34), .unset, .unset, .unset, .unset, .unset] [(.ref b34)])) _
    refine XS.iconst X69.here hx rfl (hb hby at_117) ?_
    show Steps p.tables e below (T69.setTop (mkF m 118 #[.val (.int p0_0), .val (.int p0_1), .val (.int p0_2), .val (.int p0_3), .val (.ref b1), .val (.ref b34), .unset, .unset, .unset, .unset, .unset] [(.int (5 : Int32)), (.ref b34)])) _
    refine XS.aload X69.here hx rfl (hb hby at_118) rfl rfl ?_
    show Steps p.tables e below (T69.setTop (mkF m 120 #[.val (.int p0_0), .val (.int p0_1), .val (.int p0_2), .val (.int p0_3), .val (.ref b1), .val (.ref b34), .unset, .unset, .unset, .unset, .unset] [(.ref b1), (.int (5 : Int32)), (.ref b34)])) _
    refine XS.iconst X69.here hx rfl (hb hby at_120) ?_
    show Steps p.tables e below (T69.setTop (mkF m 121 #[.val (.int p0_0), .val (.int p0_1), .val (.int p0_2), .val (.int p0_3), .val (.ref b1), .val (.ref b34), .unset, .unset, .unset, .unset, .unset] [(.int (5 : Int32)), (.ref b1), (.int (5 : Int32)), (.ref b34)])) _
    refine X69.iaload hx (j := (5 : Int32)) (v := (.int zk5)) (by rw [e69]; exact Ar74.1) (State.isArrayOf_alike hZ.alike Ar74.2.1) Ar74.2.2 hin74 (Hh74.at hin74 rfl) (g := (mkF m 121 #[.val (.int p0_0), .val (.int p0_1), .val (.int p0_2), .val (.int p0_3), .val (.ref b1), .val (.ref b34), .unset, .unset, .unset, .unset, .unset] [(.int (5 : Int32)), (.ref b1), (.int (5 : Int32)), (.ref b34)])) rfl rfl (hb hby at_121) _ ?_
    show Steps p.tables e below (T69.setTop (mkF m 122 #[.val (.int p0_0), .val (.int p0_1), .val (.int p0_2), .val (.int p0_3), .val (.ref b1), .val (.ref b34), .unset, .unset, .unset, .unset, .unset] [(.int zk5), (.int (5 : Int32)), (.ref b34)])) _
    refine st75 _ ?_
    show Steps p.tables e below (T75.setTop (mkF m 125 #[.val (.int p0_0), .val (.int p0_1), .val (.int p0_2), .val (.int p0_3), .val (.ref b1), .val (.ref b34), .unset, .unset, .unset, .unset, .unset] [(.int (own_chr zk5)), (.int (5 : Int32)), (.ref b34)])) _
    refine st76 _ ?_
    show Steps p.tables e below (T76.setTop (mkF m 126 #[.val (.int p0_0), .val (.int p0_1), .val (.int p0_2), .val (.int p0_3), .val (.ref b1), .val (.ref b34), .unset, .unset, .unset, .unset, .unset] [])) _
    refine XS.iloadN X76.here hx rfl (hb hby at_126) rfl ?_
    show Steps p.tables e below (T76.setTop (mkF m 127 #[.val (.int p0_0), .val (.int p0_1), .val (.int p0_2), .val (.int p0_3), .val (.ref b1), .val (.ref b34), .unset, .unset, .unset, .unset, .unset] [(.int p0_3)])) _
    refine X76.ldcInt hx hown (mvT hZ (hw _ (List.mem_of_getElem? (i := 7) rfl))) (g := (mkF m 127 #[.val (.int p0_0), .val (.int p0_1), .val (.int p0_2), .val (.int p0_3), .val (.ref b1), .val (.ref b34), .unset, .unset, .unset, .unset, .unset] [(.int p0_3)])) rfl (hb hby at_127) _ ?_
    show Steps p.tables e below (T76.setTop (mkF m 129 #[.val (.int p0_0), .val (.int p0_1), .val (.int p0_2), .val (.int p0_3), .val (.ref b1), .val (.ref b34), .unset, .unset, .unset, .unset, .unset] [(.int (2147483647 : Int32)), (.int p0_3)])) _
    refine XS.iand X76.here hx rfl (hb hby at_129) rfl ?_
    show Steps p.tables e below (T76.setTop (mkF m 130 #[.val (.int p0_0), .val (.int p0_1), .val (.int p0_2), .val (.int p0_3), .val (.ref b1), .val (.ref b34), .unset, .unset, .unset, .unset, .unset] [(.int (p0_3 &&& (2147483647 : Int32)))])) _
    refine XS.bipush X76.here hx rfl (hb hby at_130) ?_
    show Steps p.tables e below (T76.setTop (mkF m 132 #[.val (.int p0_0), .val (.int p0_1), .val (.int p0_2), .val (.int p0_3), .val (.ref b1), .val (.ref b34), .unset, .unset, .unset, .unset, .unset] [(.int (6 : Int32)), (.int (p0_3 &&& (2147483647 : Int32)))])) _
    refine iremM X76 hx rfl (hb hby at_132) rfl (by decide) ?_
    exact k
  obtain ⟨zS, hzS⟩ : ∃ z, z = ((p0_3 &&& (2147483647 : Int32)) % (6 : Int32)) := ⟨_, rfl⟩
  rw [← hzS] at k81
  have hS0 := (own_st p0_3).1
  have hS6 := (own_st p0_3).2
  rw [← hzS] at hS0 hS6
  obtain ⟨cl82, Ar82, qc82, Sz82, Nn82, Hh82, Gg82⟩ := (id F79)
  have hin82 : ¬ (zS < 0 ∨ cl82.slots.size ≤ (zS).toNatClampNeg) := inb_of Sz82 ⟨hS0, hS6⟩
  obtain ⟨zg82, hzg82⟩ : ∃ z, z = (own_get6 zk0 zk1 zk2 zk3 zk4 zk5 zS) := ⟨_, rfl⟩
  have hs82 := own_has6 Hh82 hin82 hS0 hS6
  rw [← hzg82] at hs82
  obtain ⟨cl83, Ar83, qc83, Sz83, Nn83, Hh83, Gg83⟩ := (id V76)
  have hin83 : ¬ (zS < 0 ∨ cl83.slots.size ≤ (zS).toNatClampNeg) := inb_of Sz83 ⟨hS0, hS6⟩
  obtain ⟨T83, h83, X83, e83, W83, st83⟩ := stC X76 hx hZ e76 Ar83 (j := zS) hin83 (g := (mkF m 153 #[.val (.int p0_0), .val (.int p0_1), .val (.int p0_2), .val (.int p0_3), .val (.ref b1), .val (.ref b34), .val (.int zS), .unset, .unset, .unset, .unset] [(.int ((48 : Int32) + (((zg82.toUInt32 >>> ((2 : Int32) &&& 31).toUInt32).toInt32) % (10 : Int32))).toUInt32.toUInt16.toUInt32.toInt32), (.int zS), (.ref b34)])) rfl rfl (hb hby at_153)
  have F84 : Sta Z h83 "java/lang/String" "COMPACT_STRINGS" "Z" (.int cs) := F77.wr W83
  have F85 : Sta Z h83 "jdk/internal/util/Preconditions" "SIOOBE_FORMATTER" "Ljava/util/function/BiFunction;" fm := F78.wr W83
  have F86 : Arv Z h83 b1 k1 .int (6 : Int32) [(.int zk0), (.int zk1), (.int zk2), (.int zk3), (.int zk4), (.int zk5)] (.int (0 : Int32)) := F79.other W83 ne35
  rw [own_nar2] at W83
  have V83 := own_set6 Ar83 qc83 Sz83 Nn83 Hh83 Gg83 (by rw [← own_nar2]; exact fits_nar_char _) W83 hS0 hS6
  obtain ⟨c0, hc0⟩ : ∃ z, z = own_up (own_chr zk0) ((48 : Int32) + (((zg82.toUInt32 >>> ((2 : Int32) &&& 31).toUInt32).toInt32) % (10 : Int32))).toUInt32.toUInt16.toUInt32.toInt32 0 zS := ⟨_, rfl⟩
  obtain ⟨c1, hc1⟩ : ∃ z, z = own_up (own_chr zk1) ((48 : Int32) + (((zg82.toUInt32 >>> ((2 : Int32) &&& 31).toUInt32).toInt32) % (10 : Int32))).toUInt32.toUInt16.toUInt32.toInt32 1 zS := ⟨_, rfl⟩
  obtain ⟨c2, hc2⟩ : ∃ z, z = own_up (own_chr zk2) ((48 : Int32) + (((zg82.toUInt32 >>> ((2 : Int32) &&& 31).toUInt32).toInt32) % (10 : Int32))).toUInt32.toUInt16.toUInt32.toInt32 2 zS := ⟨_, rfl⟩
  obtain ⟨c3, hc3⟩ : ∃ z, z = own_up (own_chr zk3) ((48 : Int32) + (((zg82.toUInt32 >>> ((2 : Int32) &&& 31).toUInt32).toInt32) % (10 : Int32))).toUInt32.toUInt16.toUInt32.toInt32 3 zS := ⟨_, rfl⟩
  obtain ⟨c4, hc4⟩ : ∃ z, z = own_up (own_chr zk4) ((48 : Int32) + (((zg82.toUInt32 >>> ((2 : Int32) &&& 31).toUInt32).toInt32) % (10 : Int32))).toUInt32.toUInt16.toUInt32.toInt32 4 zS := ⟨_, rfl⟩
  obtain ⟨c5, hc5⟩ : ∃ z, z = own_up (own_chr zk5) ((48 : Int32) + (((zg82.toUInt32 >>> ((2 : Int32) &&& 31).toUInt32).toInt32) % (10 : Int32))).toUInt32.toUInt16.toUInt32.toInt32 5 zS := ⟨_, rfl⟩
  rw [← hc0, ← hc1, ← hc2, ← hc3, ← hc4, ← hc5] at V83
  have hdr := own_dig10 zg82
  have hp : ∀ c ∈ ([c0, c1, c2, c3, c4, c5] : List Int32), ¬ c < 0 ∧ ¬ (255 : Int32) < c := by
    intro c hc
    simp only [List.mem_cons, List.not_mem_nil, or_false] at hc
    rcases hc with rfl | rfl | rfl | rfl | rfl | rfl
    · rw [hc0]; exact own_up_rng (own_chr_rng _) (own_57 hdr)
    · rw [hc1]; exact own_up_rng (own_chr_rng _) (own_57 hdr)
    · rw [hc2]; exact own_up_rng (own_chr_rng _) (own_57 hdr)
    · rw [hc3]; exact own_up_rng (own_chr_rng _) (own_57 hdr)
    · rw [hc4]; exact own_up_rng (own_chr_rng _) (own_57 hdr)
    · rw [hc5]; exact own_up_rng (own_chr_rng _) (own_57 hdr)
  have hdg : ¬ own_dg (own_get6 c0 c1 c2 c3 c4 c5 zS) = (0 : Int32) := by
    rw [hc0, hc1, hc2, hc3, hc4, hc5, own_at _ _ _ _ _ _ _ _ hS0 hS6]; exact own_dg1 hdr
  have N83 := Fr.snoc X83 N76 gg34
  have Zs83 : n0 ≤ h83.size := by rw [W83.size]; exact Zs76
  obtain ⟨b88, g88⟩ : ∃ z, z = h83.size := ⟨_, rfl⟩
  obtain ⟨T88, h88, X88, e88, E88, A88, D88, -, st88⟩ := newO X83 hx hZ hown (hw _ (List.mem_of_getElem? (i := 8) rfl)) (hw _ (List.mem_of_getElem? (i := 9) rfl)) (hw _ (List.mem_of_getElem? (i := 10) rfl)) e83 (g := (mkF m 154 #[.val (.int p0_0), .val (.int p0_1), .val (.int p0_2), .val (.int p0_3), .val (.ref b1), .val (.ref b34), .val (.int zS), .unset, .unset, .unset, .unset] [])) rfl (hb hby at_154) (by decide) (by decide)
  rw [← g88] at A88 D88 st88
  have ne89 : b1 ≠ b88 := Nat.ne_of_lt (Nat.lt_of_lt_of_le F86.lt (Nat.le_of_eq g88.symm))
  have ne90 : b34 ≠ b88 := Nat.ne_of_lt (Nat.lt_of_lt_of_le V83.lt (Nat.le_of_eq g88.symm))
  have gg88 : n0 ≤ b88 := Nat.le_trans Zs83 (Nat.le_of_eq g88.symm)
  have Zs88 : n0 ≤ h88.size := Nat.le_trans Zs83 E88.1
  have F91 : Sta Z h88 "java/lang/String" "COMPACT_STRINGS" "Z" (.int cs) := F84.ext E88
  have F92 : Sta Z h88 "jdk/internal/util/Preconditions" "SIOOBE_FORMATTER" "Ljava/util/function/BiFunction;" fm := F85.ext E88
  have F93 : Arv Z h88 b1 k1 .int (6 : Int32) [(.int zk0), (.int zk1), (.int zk2), (.int zk3), (.int zk4), (.int zk5)] (.int (0 : Int32)) := F86.ext E88
  have F94 : Arv Z h88 b34 k34 .char (6 : Int32) [(.int c0), (.int c1), (.int c2), (.int c3), (.int c4), (.int c5)] (.int (0 : Int32)) := V83.ext E88
  have F95 : Fld Z h88 b88 "java/lang/String" "coder" "B" (.int (0 : Int32)) := D88 (Or.inr (hw _ (List.mem_of_getElem? (i := 34) rfl))) (ty := .byte) (by decide)
  have F96 : Fld Z h88 b88 "java/lang/String" "value" "[B" .null := D88 (Or.inr (hw _ (List.mem_of_getElem? (i := 36) rfl))) (ty := (.array .byte)) (by decide)
  obtain ⟨_, _, ⟨T97, L97, k97, n97⟩, -, X97, ⟨Lc97, hQ97, l97, y97, z97⟩, st97⟩ := X88.specialBack hx (y := (⟨"java/lang/String", "<init>", "([C)V"⟩ : MethodName)) rfl hown (mvT hZ (hw _ (List.mem_of_getElem? (i := 11) rfl))) (mvT hZ (hw _ (List.mem_of_getElem? (i := 12) rfl))) (mvT hZ (hw _ (List.mem_of_getElem? (i := 13) rfl))) (by decide) (StrChars.Road.backV (W := 1) hZ (fun d hd => hw d (own_sub_backV d hd)) (kI := 4) (hw _ (List.mem_of_getElem? (i := 9) rfl)) (cs := ([c0, c1, c2, c3, c4, c5] : List Int32)) (bs := ([c0, c1, c2, c3, c4, c5] : List Int32).map (fun c => c.toInt8.toInt32)) (n := 6) gg88 Zs88 A88 F96 F95 F94 F91 hcs rfl rfl (by decide) (by decide) hp rfl (by decide) (by decide)) (g := (mkF m 160 #[.val (.int p0_0), .val (.int p0_1), .val (.int p0_2), .val (.int p0_3), .val (.ref b1), .val (.ref b34), .val (.int zS), .unset, .unset, .unset, .unset] [(.ref b34), (.ref b88), (.ref b88)])) rfl (by rw [hml]; rfl) (Steps.refl _) (a := b88) (argsL := [(.ref b34)]) (rest := [(.ref b88)]) (lenOf pd_4 rfl) rfl (by show 2 * 0 + _ ≤ _; exact Nat.le_of_eq rfl) (hb hby at_160) (fun _ _ => ⟨rfl, e88, (by decide : 3 + 1 ≤ _), (by decide : 16 + 6 ≤ _)⟩)
  dsimp only [Pt.U, Pt.locs, Pt.cells, Pt.slots] at X97 l97 y97 z97 st97 hQ97
  rw [l97, y97, z97] at X97
  obtain ⟨rfl, N97q, Kc97, G97_0, G97_1, t97, kb97, ggt97, szt97, nex97, G97_2, G97_3⟩ := hQ97
  have ne98 : b1 ≠ t97 := Nat.ne_of_lt (Nat.lt_of_lt_of_le F93.lt szt97)
  have ne99 : b34 ≠ t97 := Nat.ne_of_lt (Nat.lt_of_lt_of_le F94.lt szt97)
  have ne100 : b88 ≠ t97 := Nat.ne_of_lt (Nat.lt_of_lt_of_le A88.lt szt97)
  have Zs97 : n0 ≤ T97.heap.size := Nat.le_trans Zs88 Kc97.1
  have F101 : Sta Z T97.heap "java/lang/String" "COMPACT_STRINGS" "Z" (.int cs) := own_stakeep F91 Kc97 (allS (own_nsE A88) all0)
  have F102 : Sta Z T97.heap "jdk/internal/util/Preconditions" "SIOOBE_FORMATTER" "Ljava/util/function/BiFunction;" fm := own_stakeep F92 Kc97 (allS (own_nsE A88) all0)
  have F103 : Arv Z T97.heap b1 k1 .int (6 : Int32) [(.int zk0), (.int zk1), (.int zk2), (.int zk3), (.int zk4), (.int zk5)] (.int (0 : Int32)) := F93.keep Kc97 (ninS ne89 nin0)
  have F104 : Arv Z T97.heap b34 k34 .char (6 : Int32) [(.int c0), (.int c1), (.int c2), (.int c3), (.int c4), (.int c5)] (.int (0 : Int32)) := F94.keep Kc97 (ninS ne90 nin0)
  have N97 := Fr.app N83 N97q
  have k105 : ∀ t, Steps p.tables e below (T97.setTop (mkF m 169 #[.val (.int p0_0), .val (.int p0_1), .val (.int p0_2), .val (.int p0_3), .val (.ref b1), .val (.ref b34), .val (.int zS), .val (.ref b88), .unset, .unset, .unset] [(.int (zS + (1 : Int32)))])) t → Steps p.tables e below (s₁.setTop (entryFrame m #[(.int p0_0), (.int p0_1), (.int p0_2), (.int p0_3)] maxLocals)) t := by
    intro t k
    refine k81 t ?_
    show Steps p.tables e below (T76.setTop (mkF m 133 #[.val (.int p0_0), .val (.int p0_1), .val (.int p0_2), .val (.int p0_3), .val (.ref b1), .val (.ref b34), .unset, .unset, .unset, .unset, .unset] [(.int zS)])) _
    refine XS.istore X76.here hx rfl (hb hby at_133) rfl (l' := #[.val (.int p0_0), .val (.int p0_1), .val (.int p0_2), .val (.int p0_3), .val (.ref b1), .val (.ref b34), .val (.int zS), .unset, .unset, .unset, .unset]) rfl ?_
    show Steps p.tables e below (T76.setTop (mkF m 135 #[.val (.int p0_0), .val (.int p0_1), .val (.int p0_2), .val (.int p0_3), .val (.ref b1), .val (.ref b34), .val (.int zS), .unset, .unset, .unset, .unset] [])) _
    refine XS.aload X76.here hx rfl (hb hby at_135) rfl rfl ?_
    show Steps p.tables e below (T76.setTop (mkF m 137 #[.val (.int p0_0), .val (.int p0_1), .val (.int p0_2), .val (.int p0_3), .val (.ref b1), .val (.ref b34), .val (.int zS), .unset, .unset, .unset, .unset] [(.ref b34)])) _
    refine XS.iload X76.here hx rfl (hb hby at_137) rfl ?_
    show Steps p.tables e below (T76.setTop (mkF m 139 #[.val (.int p0_0), .val (.int p0_1), .val (.int p0_2), .val (.int p0_3), .val (.ref b1), .val (.ref b34), .val (.int zS), .unset, .unset, .unset, .unset] [(.int zS), (.ref b34)])) _
    refine XS.bipush X76.here hx rfl (hb hby at_139) ?_
    show Steps p.tables e below (T76.setTop (mkF m 141 #[.val (.int p0_0), .val (.int p0_1), .val (.int p0_2), .val (.int p0_3), .val (.ref b1), .val (.ref b34), .val (.int zS), .unset, .unset, .unset, .unset] [(.int (48 : Int32)), (.int zS), (.ref b34)])) _
    refine XS.aload X76.here hx rfl (hb hby at_141) rfl rfl ?_
    show Steps p.tables e below (T76.setTop (mkF m 143 #[.val (.int p0_0), .val (.int p0_1), .val (.int p0_2), .val (.int p0_3), .val (.ref b1), .val (.ref b34), .val (.int zS), .unset, .unset, .unset, .unset] [(.ref b1), (.int (48 : Int32)), (.int zS), (.ref b34)])) _
    refine XS.iload X76.here hx rfl (hb hby at_143) rfl ?_
    show Steps p.tables e below (T76.setTop (mkF m 145 #[.val (.int p0_0), .val (.int p0_1), .val (.int p0_2), .val (.int p0_3), .val (.ref b1), .val (.ref b34), .val (.int zS), .unset, .unset, .unset, .unset] [(.int zS), (.ref b1), (.int (48 : Int32)), (.int zS), (.ref b34)])) _
    refine X76.iaload hx (j := zS) (v := (.int zg82)) (by rw [e76]; exact Ar82.1) (State.isArrayOf_alike hZ.alike Ar82.2.1) Ar82.2.2 hin82 hs82 (g := (mkF m 145 #[.val (.int p0_0), .val (.int p0_1), .val (.int p0_2), .val (.int p0_3), .val (.ref b1), .val (.ref b34), .val (.int zS), .unset, .unset, .unset, .unset] [(.int zS), (.ref b1), (.int (48 : Int32)), (.int zS), (.ref b34)])) rfl rfl (hb hby at_145) _ ?_
    show Steps p.tables e below (T76.setTop (mkF m 146 #[.val (.int p0_0), .val (.int p0_1), .val (.int p0_2), .val (.int p0_3), .val (.ref b1), .val (.ref b34), .val (.int zS), .unset, .unset, .unset, .unset] [(.int zg82), (.int (48 : Int32)), (.int zS), (.ref b34)])) _
    refine XS.iconst X76.here hx rfl (hb hby at_146) ?_
    show Steps p.tables e below (T76.setTop (mkF m 147 #[.val (.int p0_0), .val (.int p0_1), .val (.int p0_2), .val (.int p0_3), .val (.ref b1), .val (.ref b34), .val (.int zS), .unset, .unset, .unset, .unset] [(.int (2 : Int32)), (.int zg82), (.int (48 : Int32)), (.int zS), (.ref b34)])) _
    refine XS.iushr X76.here hx rfl (hb hby at_147) rfl ?_
    show Steps p.tables e below (T76.setTop (mkF m 148 #[.val (.int p0_0), .val (.int p0_1), .val (.int p0_2), .val (.int p0_3), .val (.ref b1), .val (.ref b34), .val (.int zS), .unset, .unset, .unset, .unset] [(.int ((zg82.toUInt32 >>> ((2 : Int32) &&& 31).toUInt32).toInt32)), (.int (48 : Int32)), (.int zS), (.ref b34)])) _
    refine XS.bipush X76.here hx rfl (hb hby at_148) ?_
    show Steps p.tables e below (T76.setTop (mkF m 150 #[.val (.int p0_0), .val (.int p0_1), .val (.int p0_2), .val (.int p0_3), .val (.ref b1), .val (.ref b34), .val (.int zS), .unset, .unset, .unset, .unset] [(.int (10 : Int32)), (.int ((zg82.toUInt32 >>> ((2 : Int32) &&& 31).toUInt32).toInt32)), (.int (48 : Int32)), (.int zS), (.ref b34)])) _
    refine iremM X76 hx rfl (hb hby at_150) rfl (by decide) ?_
    show Steps p.tables e below (T76.setTop (mkF m 151 #[.val (.int p0_0), .val (.int p0_1), .val (.int p0_2), .val (.int p0_3), .val (.ref b1), .val (.ref b34), .val (.int zS), .unset, .unset, .unset, .unset] [(.int (((zg82.toUInt32 >>> ((2 : Int32) &&& 31).toUInt32).toInt32) % (10 : Int32))), (.int (48 : Int32)), (.int zS), (.ref b34)])) _
    refine XS.iadd X76.here hx rfl (hb hby at_151) rfl ?_
    show Steps p.tables e below (T76.setTop (mkF m 152 #[.val (.int p0_0), .val (.int p0_1), .val (.int p0_2), .val (.int p0_3), .val (.ref b1), .val (.ref b34), .val (.int zS), .unset, .unset, .unset, .unset] [(.int ((48 : Int32) + (((zg82.toUInt32 >>> ((2 : Int32) &&& 31).toUInt32).toInt32) % (10 : Int32)))), (.int zS), (.ref b34)])) _
    refine XS.i2c X76.here hx rfl (hb hby at_152) rfl ?_
    show Steps p.tables e below (T76.setTop (mkF m 153 #[.val (.int p0_0), .val (.int p0_1), .val (.int p0_2), .val (.int p0_3), .val (.ref b1), .val (.ref b34), .val (.int zS), .unset, .unset, .unset, .unset] [(.int ((48 : Int32) + (((zg82.toUInt32 >>> ((2 : Int32) &&& 31).toUInt32).toInt32) % (10 : Int32))).toUInt32.toUInt16.toUInt32.toInt32), (.int zS), (.ref b34)])) _
    refine st83 _ ?_
    show Steps p.tables e below (T83.setTop (mkF m 154 #[.val (.int p0_0), .val (.int p0_1), .val (.int p0_2), .val (.int p0_3), .val (.ref b1), .val (.ref b34), .val (.int zS), .unset, .unset, .unset, .unset] [])) _
    refine st88 _ ?_
    show Steps p.tables e below (T88.setTop (mkF m 157 #[.val (.int p0_0), .val (.int p0_1), .val (.int p0_2), .val (.int p0_3), .val (.ref b1), .val (.ref b34), .val (.int zS), .unset, .unset, .unset, .unset] [(.ref b88)])) _
    refine XS.dup X88.here hx rfl (hb hby at_157) rfl rfl ?_
    show Steps p.tables e below (T88.setTop (mkF m 158 #[.val (.int p0_0), .val (.int p0_1), .val (.int p0_2), .val (.int p0_3), .val (.ref b1), .val (.ref b34), .val (.int zS), .unset, .unset, .unset, .unset] [(.ref b88), (.ref b88)])) _
    refine XS.aload X88.here hx rfl (hb hby at_158) rfl rfl ?_
    show Steps p.tables e below (T88.setTop (mkF m 160 #[.val (.int p0_0), .val (.int p0_1), .val (.int p0_2), .val (.int p0_3), .val (.ref b1), .val (.ref b34), .val (.int zS), .unset, .unset, .unset, .unset] [(.ref b34), (.ref b88), (.ref b88)])) _
    refine st97.trans ?_
    show Steps p.tables e below (T97.setTop (mkF m 163 #[.val (.int p0_0), .val (.int p0_1), .val (.int p0_2), .val (.int p0_3), .val (.ref b1), .val (.ref b34), .val (.int zS), .unset, .unset, .unset, .unset] [(.ref b88)])) _
    refine XS.astore X97.here hx rfl (hb hby at_163) rfl rfl (l' := #[.val (.int p0_0), .val (.int p0_1), .val (.int p0_2), .val (.int p0_3), .val (.ref b1), .val (.ref b34), .val (.int zS), .val (.ref b88), .unset, .unset, .unset]) rfl ?_
    show Steps p.tables e below (T97.setTop (mkF m 165 #[.val (.int p0_0), .val (.int p0_1), .val (.int p0_2), .val (.int p0_3), .val (.ref b1), .val (.ref b34), .val (.int zS), .val (.ref b88), .unset, .unset, .unset] [])) _
    refine XS.iload X97.here hx rfl (hb hby at_165) rfl ?_
    show Steps p.tables e below (T97.setTop (mkF m 167 #[.val (.int p0_0), .val (.int p0_1), .val (.int p0_2), .val (.int p0_3), .val (.ref b1), .val (.ref b34), .val (.int zS), .val (.ref b88), .unset, .unset, .unset] [(.int zS)])) _
    refine XS.iconst X97.here hx rfl (hb hby at_167) ?_
    show Steps p.tables e below (T97.setTop (mkF m 168 #[.val (.int p0_0), .val (.int p0_1), .val (.int p0_2), .val (.int p0_3), .val (.ref b1), .val (.ref b34), .val (.int zS), .val (.ref b88), .unset, .unset, .unset] [(.int (1 : Int32)), (.int zS)])) _
    refine XS.iadd X97.here hx rfl (hb hby at_168) rfl ?_
    exact k
  obtain ⟨zF0, hzF0⟩ : ∃ z, z = (zS + (1 : Int32)) := ⟨_, rfl⟩
  rw [← hzF0] at k105
  have hr_zF0 := own_p1 zS hS0 hS6
  rw [← hzF0] at hr_zF0
  obtain ⟨_, _, ⟨T106, L106, k106, n106⟩, -, X106, ⟨Lc106, hQ106, l106, y106, z106⟩, st106⟩ := Jvm.LawKit.callS X97 hx (y := (⟨"com/example/oyster/oyster/engine/LiteralsNumberEndPinLaw", "step", "([CI)I"⟩ : MethodName)) hown (mvT hZ (hw _ (List.mem_of_getElem? (i := 37) rfl))) (mvT hZ (hw _ (List.mem_of_getElem? (i := 38) rfl))) (mvT hZ (hw _ (List.mem_of_getElem? (i := 5) rfl))) (mvT hZ (hw _ (List.mem_of_getElem? (i := 39) rfl))) (by decide) (backOf (W := 0) (rm4 l Z a0 hw [] b34 zF0 k34 c0 c1 c2 c3 c4 c5 T97.heap n0 Zs97 F104 hr_zF0.1) hZ (hw _ (List.mem_of_getElem? (i := 39) rfl)) (hw _ (List.mem_of_getElem? (i := 5) rfl)) (by decide) (by decide)) (g := (mkF m 175 #[.val (.int p0_0), .val (.int p0_1), .val (.int p0_2), .val (.int p0_3), .val (.ref b1), .val (.ref b34), .val (.int zS), .val (.ref b88), .val (.int zF0), .unset, .unset] [(.int zF0), (.ref b34)])) rfl (by rw [hml]; rfl) (argsL := [(.ref b34), (.int zF0)]) (rest := []) (lenOf pd_5 rfl) rfl (by show 2 * 0 + _ ≤ _; exact Nat.le_of_eq rfl) (hb hby at_175) (fun _ _ => ⟨rfl, rfl, (by decide : 4 + 0 ≤ _), (by decide : 22 + 0 ≤ _)⟩)
  dsimp only [Pt.U, Pt.locs, Pt.cells, Pt.slots] at X106 l106 y106 z106 st106 hQ106
  rw [l106, y106, z106] at X106
  obtain ⟨rfl, N106q, eh106⟩ := hQ106
  have N106 := Fr.app N97 N106q
  have k107 : ∀ t, Steps p.tables e below (T106.setTop (mkF m 178 #[.val (.int p0_0), .val (.int p0_1), .val (.int p0_2), .val (.int p0_3), .val (.ref b1), .val (.ref b34), .val (.int zS), .val (.ref b88), .val (.int zF0), .unset, .unset] [(.int (own_stp zF0 c0 c1 c2 c3 c4 c5))])) t → Steps p.tables e below (s₁.setTop (entryFrame m #[(.int p0_0), (.int p0_1), (.int p0_2), (.int p0_3)] maxLocals)) t := by
    intro t k
    refine k105 t ?_
    show Steps p.tables e below (T97.setTop (mkF m 169 #[.val (.int p0_0), .val (.int p0_1), .val (.int p0_2), .val (.int p0_3), .val (.ref b1), .val (.ref b34), .val (.int zS), .val (.ref b88), .unset, .unset, .unset] [(.int zF0)])) _
    refine XS.istore X97.here hx rfl (hb hby at_169) rfl (l' := #[.val (.int p0_0), .val (.int p0_1), .val (.int p0_2), .val (.int p0_3), .val (.ref b1), .val (.ref b34), .val (.int zS), .val (.ref b88), .val (.int zF0), .unset, .unset]) rfl ?_
    show Steps p.tables e below (T97.setTop (mkF m 171 #[.val (.int p0_0), .val (.int p0_1), .val (.int p0_2), .val (.int p0_3), .val (.ref b1), .val (.ref b34), .val (.int zS), .val (.ref b88), .val (.int zF0), .unset, .unset] [])) _
    refine XS.aload X97.here hx rfl (hb hby at_171) rfl rfl ?_
    show Steps p.tables e below (T97.setTop (mkF m 173 #[.val (.int p0_0), .val (.int p0_1), .val (.int p0_2), .val (.int p0_3), .val (.ref b1), .val (.ref b34), .val (.int zS), .val (.ref b88), .val (.int zF0), .unset, .unset] [(.ref b34)])) _
    refine XS.iload X97.here hx rfl (hb hby at_173) rfl ?_
    show Steps p.tables e below (T97.setTop (mkF m 175 #[.val (.int p0_0), .val (.int p0_1), .val (.int p0_2), .val (.int p0_3), .val (.ref b1), .val (.ref b34), .val (.int zS), .val (.ref b88), .val (.int zF0), .unset, .unset] [(.int zF0), (.ref b34)])) _
    refine st106 _ ?_
    exact k
  obtain ⟨zF1, hzF1⟩ : ∃ z, z = (own_stp zF0 c0 c1 c2 c3 c4 c5) := ⟨_, rfl⟩
  rw [← hzF1] at k107
  have hr_zF1 := own_stp_rng zF0 c0 c1 c2 c3 c4 c5 hr_zF0.1 hr_zF0.2
  rw [← hzF1] at hr_zF1
  obtain ⟨_, _, ⟨T108, L108, k108, n108⟩, -, X108, ⟨Lc108, hQ108, l108, y108, z108⟩, st108⟩ := Jvm.LawKit.callS X106 hx (y := (⟨"com/example/oyster/oyster/engine/LiteralsNumberEndPinLaw", "step", "([CI)I"⟩ : MethodName)) hown (mvT hZ (hw _ (List.mem_of_getElem? (i := 37) rfl))) (mvT hZ (hw _ (List.mem_of_getElem? (i := 38) rfl))) (mvT hZ (hw _ (List.mem_of_getElem? (i := 5) rfl))) (mvT hZ (hw _ (List.mem_of_getElem? (i := 39) rfl))) (by decide) (backOf (W := 0) (rm4 l Z a0 hw [] b34 zF1 k34 c0 c1 c2 c3 c4 c5 T97.heap n0 Zs97 F104 hr_zF1.1) hZ (hw _ (List.mem_of_getElem? (i := 39) rfl)) (hw _ (List.mem_of_getElem? (i := 5) rfl)) (by decide) (by decide)) (g := (mkF m 184 #[.val (.int p0_0), .val (.int p0_1), .val (.int p0_2), .val (.int p0_3), .val (.ref b1), .val (.ref b34), .val (.int zS), .val (.ref b88), .val (.int zF1), .unset, .unset] [(.int zF1), (.ref b34)])) rfl (by rw [hml]; rfl) (argsL := [(.ref b34), (.int zF1)]) (rest := []) (lenOf pd_5 rfl) rfl (by show 2 * 0 + _ ≤ _; exact Nat.le_of_eq rfl) (hb hby at_184) (fun _ _ => ⟨rfl, eh106, (by decide : 4 + 0 ≤ _), (by decide : 22 + 0 ≤ _)⟩)
  dsimp only [Pt.U, Pt.locs, Pt.cells, Pt.slots] at X108 l108 y108 z108 st108 hQ108
  rw [l108, y108, z108] at X108
  obtain ⟨rfl, N108q, eh108⟩ := hQ108
  have N108 := Fr.app N106 N108q
  have k109 : ∀ t, Steps p.tables e below (T108.setTop (mkF m 187 #[.val (.int p0_0), .val (.int p0_1), .val (.int p0_2), .val (.int p0_3), .val (.ref b1), .val (.ref b34), .val (.int zS), .val (.ref b88), .val (.int zF1), .unset, .unset] [(.int (own_stp zF1 c0 c1 c2 c3 c4 c5))])) t → Steps p.tables e below (s₁.setTop (entryFrame m #[(.int p0_0), (.int p0_1), (.int p0_2), (.int p0_3)] maxLocals)) t := by
    intro t k
    refine k107 t ?_
    show Steps p.tables e below (T106.setTop (mkF m 178 #[.val (.int p0_0), .val (.int p0_1), .val (.int p0_2), .val (.int p0_3), .val (.ref b1), .val (.ref b34), .val (.int zS), .val (.ref b88), .val (.int zF0), .unset, .unset] [(.int zF1)])) _
    refine XS.istore X106.here hx rfl (hb hby at_178) rfl (l' := #[.val (.int p0_0), .val (.int p0_1), .val (.int p0_2), .val (.int p0_3), .val (.ref b1), .val (.ref b34), .val (.int zS), .val (.ref b88), .val (.int zF1), .unset, .unset]) rfl ?_
    show Steps p.tables e below (T106.setTop (mkF m 180 #[.val (.int p0_0), .val (.int p0_1), .val (.int p0_2), .val (.int p0_3), .val (.ref b1), .val (.ref b34), .val (.int zS), .val (.ref b88), .val (.int zF1), .unset, .unset] [])) _
    refine XS.aload X106.here hx rfl (hb hby at_180) rfl rfl ?_
    show Steps p.tables e below (T106.setTop (mkF m 182 #[.val (.int p0_0), .val (.int p0_1), .val (.int p0_2), .val (.int p0_3), .val (.ref b1), .val (.ref b34), .val (.int zS), .val (.ref b88), .val (.int zF1), .unset, .unset] [(.ref b34)])) _
    refine XS.iload X106.here hx rfl (hb hby at_182) rfl ?_
    show Steps p.tables e below (T106.setTop (mkF m 184 #[.val (.int p0_0), .val (.int p0_1), .val (.int p0_2), .val (.int p0_3), .val (.ref b1), .val (.ref b34), .val (.int zS), .val (.ref b88), .val (.int zF1), .unset, .unset] [(.int zF1), (.ref b34)])) _
    refine st108 _ ?_
    exact k
  obtain ⟨zF2, hzF2⟩ : ∃ z, z = (own_stp zF1 c0 c1 c2 c3 c4 c5) := ⟨_, rfl⟩
  rw [← hzF2] at k109
  have hr_zF2 := own_stp_rng zF1 c0 c1 c2 c3 c4 c5 hr_zF1.1 hr_zF1.2
  rw [← hzF2] at hr_zF2
  obtain ⟨_, _, ⟨T110, L110, k110, n110⟩, -, X110, ⟨Lc110, hQ110, l110, y110, z110⟩, st110⟩ := Jvm.LawKit.callS X108 hx (y := (⟨"com/example/oyster/oyster/engine/LiteralsNumberEndPinLaw", "step", "([CI)I"⟩ : MethodName)) hown (mvT hZ (hw _ (List.mem_of_getElem? (i := 37) rfl))) (mvT hZ (hw _ (List.mem_of_getElem? (i := 38) rfl))) (mvT hZ (hw _ (List.mem_of_getElem? (i := 5) rfl))) (mvT hZ (hw _ (List.mem_of_getElem? (i := 39) rfl))) (by decide) (backOf (W := 0) (rm4 l Z a0 hw [] b34 zF2 k34 c0 c1 c2 c3 c4 c5 T97.heap n0 Zs97 F104 hr_zF2.1) hZ (hw _ (List.mem_of_getElem? (i := 39) rfl)) (hw _ (List.mem_of_getElem? (i := 5) rfl)) (by decide) (by decide)) (g := (mkF m 193 #[.val (.int p0_0), .val (.int p0_1), .val (.int p0_2), .val (.int p0_3), .val (.ref b1), .val (.ref b34), .val (.int zS), .val (.ref b88), .val (.int zF2), .unset, .unset] [(.int zF2), (.ref b34)])) rfl (by rw [hml]; rfl) (argsL := [(.ref b34), (.int zF2)]) (rest := []) (lenOf pd_5 rfl) rfl (by show 2 * 0 + _ ≤ _; exact Nat.le_of_eq rfl) (hb hby at_193) (fun _ _ => ⟨rfl, eh108, (by decide : 4 + 0 ≤ _), (by decide : 22 + 0 ≤ _)⟩)
  dsimp only [Pt.U, Pt.locs, Pt.cells, Pt.slots] at X110 l110 y110 z110 st110 hQ110
  rw [l110, y110, z110] at X110
  obtain ⟨rfl, N110q, eh110⟩ := hQ110
  have N110 := Fr.app N108 N110q
  have k111 : ∀ t, Steps p.tables e below (T110.setTop (mkF m 196 #[.val (.int p0_0), .val (.int p0_1), .val (.int p0_2), .val (.int p0_3), .val (.ref b1), .val (.ref b34), .val (.int zS), .val (.ref b88), .val (.int zF2), .unset, .unset] [(.int (own_stp zF2 c0 c1 c2 c3 c4 c5))])) t → Steps p.tables e below (s₁.setTop (entryFrame m #[(.int p0_0), (.int p0_1), (.int p0_2), (.int p0_3)] maxLocals)) t := by
    intro t k
    refine k109 t ?_
    show Steps p.tables e below (T108.setTop (mkF m 187 #[.val (.int p0_0), .val (.int p0_1), .val (.int p0_2), .val (.int p0_3), .val (.ref b1), .val (.ref b34), .val (.int zS), .val (.ref b88), .val (.int zF1), .unset, .unset] [(.int zF2)])) _
    refine XS.istore X108.here hx rfl (hb hby at_187) rfl (l' := #[.val (.int p0_0), .val (.int p0_1), .val (.int p0_2), .val (.int p0_3), .val (.ref b1), .val (.ref b34), .val (.int zS), .val (.ref b88), .val (.int zF2), .unset, .unset]) rfl ?_
    show Steps p.tables e below (T108.setTop (mkF m 189 #[.val (.int p0_0), .val (.int p0_1), .val (.int p0_2), .val (.int p0_3), .val (.ref b1), .val (.ref b34), .val (.int zS), .val (.ref b88), .val (.int zF2), .unset, .unset] [])) _
    refine XS.aload X108.here hx rfl (hb hby at_189) rfl rfl ?_
    show Steps p.tables e below (T108.setTop (mkF m 191 #[.val (.int p0_0), .val (.int p0_1), .val (.int p0_2), .val (.int p0_3), .val (.ref b1), .val (.ref b34), .val (.int zS), .val (.ref b88), .val (.int zF2), .unset, .unset] [(.ref b34)])) _
    refine XS.iload X108.here hx rfl (hb hby at_191) rfl ?_
    show Steps p.tables e below (T108.setTop (mkF m 193 #[.val (.int p0_0), .val (.int p0_1), .val (.int p0_2), .val (.int p0_3), .val (.ref b1), .val (.ref b34), .val (.int zS), .val (.ref b88), .val (.int zF2), .unset, .unset] [(.int zF2), (.ref b34)])) _
    refine st110 _ ?_
    exact k
  obtain ⟨zF3, hzF3⟩ : ∃ z, z = (own_stp zF2 c0 c1 c2 c3 c4 c5) := ⟨_, rfl⟩
  rw [← hzF3] at k111
  have hr_zF3 := own_stp_rng zF2 c0 c1 c2 c3 c4 c5 hr_zF2.1 hr_zF2.2
  rw [← hzF3] at hr_zF3
  obtain ⟨_, _, ⟨T112, L112, k112, n112⟩, -, X112, ⟨Lc112, hQ112, l112, y112, z112⟩, st112⟩ := Jvm.LawKit.callS X110 hx (y := (⟨"com/example/oyster/oyster/engine/LiteralsNumberEndPinLaw", "step", "([CI)I"⟩ : MethodName)) hown (mvT hZ (hw _ (List.mem_of_getElem? (i := 37) rfl))) (mvT hZ (hw _ (List.mem_of_getElem? (i := 38) rfl))) (mvT hZ (hw _ (List.mem_of_getElem? (i := 5) rfl))) (mvT hZ (hw _ (List.mem_of_getElem? (i := 39) rfl))) (by decide) (backOf (W := 0) (rm4 l Z a0 hw [] b34 zF3 k34 c0 c1 c2 c3 c4 c5 T97.heap n0 Zs97 F104 hr_zF3.1) hZ (hw _ (List.mem_of_getElem? (i := 39) rfl)) (hw _ (List.mem_of_getElem? (i := 5) rfl)) (by decide) (by decide)) (g := (mkF m 202 #[.val (.int p0_0), .val (.int p0_1), .val (.int p0_2), .val (.int p0_3), .val (.ref b1), .val (.ref b34), .val (.int zS), .val (.ref b88), .val (.int zF3), .unset, .unset] [(.int zF3), (.ref b34)])) rfl (by rw [hml]; rfl) (argsL := [(.ref b34), (.int zF3)]) (rest := []) (lenOf pd_5 rfl) rfl (by show 2 * 0 + _ ≤ _; exact Nat.le_of_eq rfl) (hb hby at_202) (fun _ _ => ⟨rfl, eh110, (by decide : 4 + 0 ≤ _), (by decide : 22 + 0 ≤ _)⟩)
  dsimp only [Pt.U, Pt.locs, Pt.cells, Pt.slots] at X112 l112 y112 z112 st112 hQ112
  rw [l112, y112, z112] at X112
  obtain ⟨rfl, N112q, eh112⟩ := hQ112
  have N112 := Fr.app N110 N112q
  have k113 : ∀ t, Steps p.tables e below (T112.setTop (mkF m 205 #[.val (.int p0_0), .val (.int p0_1), .val (.int p0_2), .val (.int p0_3), .val (.ref b1), .val (.ref b34), .val (.int zS), .val (.ref b88), .val (.int zF3), .unset, .unset] [(.int (own_stp zF3 c0 c1 c2 c3 c4 c5))])) t → Steps p.tables e below (s₁.setTop (entryFrame m #[(.int p0_0), (.int p0_1), (.int p0_2), (.int p0_3)] maxLocals)) t := by
    intro t k
    refine k111 t ?_
    show Steps p.tables e below (T110.setTop (mkF m 196 #[.val (.int p0_0), .val (.int p0_1), .val (.int p0_2), .val (.int p0_3), .val (.ref b1), .val (.ref b34), .val (.int zS), .val (.ref b88), .val (.int zF2), .unset, .unset] [(.int zF3)])) _
    refine XS.istore X110.here hx rfl (hb hby at_196) rfl (l' := #[.val (.int p0_0), .val (.int p0_1), .val (.int p0_2), .val (.int p0_3), .val (.ref b1), .val (.ref b34), .val (.int zS), .val (.ref b88), .val (.int zF3), .unset, .unset]) rfl ?_
    show Steps p.tables e below (T110.setTop (mkF m 198 #[.val (.int p0_0), .val (.int p0_1), .val (.int p0_2), .val (.int p0_3), .val (.ref b1), .val (.ref b34), .val (.int zS), .val (.ref b88), .val (.int zF3), .unset, .unset] [])) _
    refine XS.aload X110.here hx rfl (hb hby at_198) rfl rfl ?_
    show Steps p.tables e below (T110.setTop (mkF m 200 #[.val (.int p0_0), .val (.int p0_1), .val (.int p0_2), .val (.int p0_3), .val (.ref b1), .val (.ref b34), .val (.int zS), .val (.ref b88), .val (.int zF3), .unset, .unset] [(.ref b34)])) _
    refine XS.iload X110.here hx rfl (hb hby at_200) rfl ?_
    show Steps p.tables e below (T110.setTop (mkF m 202 #[.val (.int p0_0), .val (.int p0_1), .val (.int p0_2), .val (.int p0_3), .val (.ref b1), .val (.ref b34), .val (.int zS), .val (.ref b88), .val (.int zF3), .unset, .unset] [(.int zF3), (.ref b34)])) _
    refine st112 _ ?_
    exact k
  obtain ⟨zF4, hzF4⟩ : ∃ z, z = (own_stp zF3 c0 c1 c2 c3 c4 c5) := ⟨_, rfl⟩
  rw [← hzF4] at k113
  have hr_zF4 := own_stp_rng zF3 c0 c1 c2 c3 c4 c5 hr_zF3.1 hr_zF3.2
  rw [← hzF4] at hr_zF4
  obtain ⟨_, _, ⟨T114, L114, k114, n114⟩, -, X114, ⟨Lc114, hQ114, l114, y114, z114⟩, st114⟩ := Jvm.LawKit.callS X112 hx (y := (⟨"com/example/oyster/oyster/engine/LiteralsNumberEndPinLaw", "step", "([CI)I"⟩ : MethodName)) hown (mvT hZ (hw _ (List.mem_of_getElem? (i := 37) rfl))) (mvT hZ (hw _ (List.mem_of_getElem? (i := 38) rfl))) (mvT hZ (hw _ (List.mem_of_getElem? (i := 5) rfl))) (mvT hZ (hw _ (List.mem_of_getElem? (i := 39) rfl))) (by decide) (backOf (W := 0) (rm4 l Z a0 hw [] b34 zF4 k34 c0 c1 c2 c3 c4 c5 T97.heap n0 Zs97 F104 hr_zF4.1) hZ (hw _ (List.mem_of_getElem? (i := 39) rfl)) (hw _ (List.mem_of_getElem? (i := 5) rfl)) (by decide) (by decide)) (g := (mkF m 211 #[.val (.int p0_0), .val (.int p0_1), .val (.int p0_2), .val (.int p0_3), .val (.ref b1), .val (.ref b34), .val (.int zS), .val (.ref b88), .val (.int zF4), .unset, .unset] [(.int zF4), (.ref b34)])) rfl (by rw [hml]; rfl) (argsL := [(.ref b34), (.int zF4)]) (rest := []) (lenOf pd_5 rfl) rfl (by show 2 * 0 + _ ≤ _; exact Nat.le_of_eq rfl) (hb hby at_211) (fun _ _ => ⟨rfl, eh112, (by decide : 4 + 0 ≤ _), (by decide : 22 + 0 ≤ _)⟩)
  dsimp only [Pt.U, Pt.locs, Pt.cells, Pt.slots] at X114 l114 y114 z114 st114 hQ114
  rw [l114, y114, z114] at X114
  obtain ⟨rfl, N114q, eh114⟩ := hQ114
  have N114 := Fr.app N112 N114q
  have k115 : ∀ t, Steps p.tables e below (T114.setTop (mkF m 214 #[.val (.int p0_0), .val (.int p0_1), .val (.int p0_2), .val (.int p0_3), .val (.ref b1), .val (.ref b34), .val (.int zS), .val (.ref b88), .val (.int zF4), .unset, .unset] [(.int (own_stp zF4 c0 c1 c2 c3 c4 c5))])) t → Steps p.tables e below (s₁.setTop (entryFrame m #[(.int p0_0), (.int p0_1), (.int p0_2), (.int p0_3)] maxLocals)) t := by
    intro t k
    refine k113 t ?_
    show Steps p.tables e below (T112.setTop (mkF m 205 #[.val (.int p0_0), .val (.int p0_1), .val (.int p0_2), .val (.int p0_3), .val (.ref b1), .val (.ref b34), .val (.int zS), .val (.ref b88), .val (.int zF3), .unset, .unset] [(.int zF4)])) _
    refine XS.istore X112.here hx rfl (hb hby at_205) rfl (l' := #[.val (.int p0_0), .val (.int p0_1), .val (.int p0_2), .val (.int p0_3), .val (.ref b1), .val (.ref b34), .val (.int zS), .val (.ref b88), .val (.int zF4), .unset, .unset]) rfl ?_
    show Steps p.tables e below (T112.setTop (mkF m 207 #[.val (.int p0_0), .val (.int p0_1), .val (.int p0_2), .val (.int p0_3), .val (.ref b1), .val (.ref b34), .val (.int zS), .val (.ref b88), .val (.int zF4), .unset, .unset] [])) _
    refine XS.aload X112.here hx rfl (hb hby at_207) rfl rfl ?_
    show Steps p.tables e below (T112.setTop (mkF m 209 #[.val (.int p0_0), .val (.int p0_1), .val (.int p0_2), .val (.int p0_3), .val (.ref b1), .val (.ref b34), .val (.int zS), .val (.ref b88), .val (.int zF4), .unset, .unset] [(.ref b34)])) _
    refine XS.iload X112.here hx rfl (hb hby at_209) rfl ?_
    show Steps p.tables e below (T112.setTop (mkF m 211 #[.val (.int p0_0), .val (.int p0_1), .val (.int p0_2), .val (.int p0_3), .val (.ref b1), .val (.ref b34), .val (.int zS), .val (.ref b88), .val (.int zF4), .unset, .unset] [(.int zF4), (.ref b34)])) _
    refine st114 _ ?_
    exact k
  obtain ⟨zF5, hzF5⟩ : ∃ z, z = (own_stp zF4 c0 c1 c2 c3 c4 c5) := ⟨_, rfl⟩
  rw [← hzF5] at k115
  have hr_zF5 := own_stp_rng zF4 c0 c1 c2 c3 c4 c5 hr_zF4.1 hr_zF4.2
  rw [← hzF5] at hr_zF5
  have k116 : ∀ t, Steps p.tables e below (T114.setTop (mkF m 226 #[.val (.int p0_0), .val (.int p0_1), .val (.int p0_2), .val (.int p0_3), .val (.ref b1), .val (.ref b34), .val (.int zS), .val (.ref b88), .val (.int zF5), .val (.int zF5), .unset] [(.int (6 : Int32)), (.int (zF5 + (1 : Int32)))])) t → Steps p.tables e below (s₁.setTop (entryFrame m #[(.int p0_0), (.int p0_1), (.int p0_2), (.int p0_3)] maxLocals)) t := by
    intro t k
    refine k115 t ?_
    show Steps p.tables e below (T114.setTop (mkF m 214 #[.val (.int p0_0), .val (.int p0_1), .val (.int p0_2), .val (.int p0_3), .val (.ref b1), .val (.ref b34), .val (.int zS), .val (.ref b88), .val (.int zF4), .unset, .unset] [(.int zF5)])) _
    refine XS.istore X114.here hx rfl (hb hby at_214) rfl (l' := #[.val (.int p0_0), .val (.int p0_1), .val (.int p0_2), .val (.int p0_3), .val (.ref b1), .val (.ref b34), .val (.int zS), .val (.ref b88), .val (.int zF5), .unset, .unset]) rfl ?_
    show Steps p.tables e below (T114.setTop (mkF m 216 #[.val (.int p0_0), .val (.int p0_1), .val (.int p0_2), .val (.int p0_3), .val (.ref b1), .val (.ref b34), .val (.int zS), .val (.ref b88), .val (.int zF5), .unset, .unset] [])) _
    refine XS.iload X114.here hx rfl (hb hby at_216) rfl ?_
    show Steps p.tables e below (T114.setTop (mkF m 218 #[.val (.int p0_0), .val (.int p0_1), .val (.int p0_2), .val (.int p0_3), .val (.ref b1), .val (.ref b34), .val (.int zS), .val (.ref b88), .val (.int zF5), .unset, .unset] [(.int zF5)])) _
    refine XS.istore X114.here hx rfl (hb hby at_218) rfl (l' := #[.val (.int p0_0), .val (.int p0_1), .val (.int p0_2), .val (.int p0_3), .val (.ref b1), .val (.ref b34), .val (.int zS), .val (.ref b88), .val (.int zF5), .val (.int zF5), .unset]) rfl ?_
    show Steps p.tables e below (T114.setTop (mkF m 220 #[.val (.int p0_0), .val (.int p0_1), .val (.int p0_2), .val (.int p0_3), .val (.ref b1), .val (.ref b34), .val (.int zS), .val (.ref b88), .val (.int zF5), .val (.int zF5), .unset] [])) _
    refine XS.iload X114.here hx rfl (hb hby at_220) rfl ?_
    show Steps p.tables e below (T114.setTop (mkF m 222 #[.val (.int p0_0), .val (.int p0_1), .val (.int p0_2), .val (.int p0_3), .val (.ref b1), .val (.ref b34), .val (.int zS), .val (.ref b88), .val (.int zF5), .val (.int zF5), .unset] [(.int zF5)])) _
    refine XS.iconst X114.here hx rfl (hb hby at_222) ?_
    show Steps p.tables e below (T114.setTop (mkF m 223 #[.val (.int p0_0), .val (.int p0_1), .val (.int p0_2), .val (.int p0_3), .val (.ref b1), .val (.ref b34), .val (.int zS), .val (.ref b88), .val (.int zF5), .val (.int zF5), .unset] [(.int (1 : Int32)), (.int zF5)])) _
    refine XS.iadd X114.here hx rfl (hb hby at_223) rfl ?_
    show Steps p.tables e below (T114.setTop (mkF m 224 #[.val (.int p0_0), .val (.int p0_1), .val (.int p0_2), .val (.int p0_3), .val (.ref b1), .val (.ref b34), .val (.int zS), .val (.ref b88), .val (.int zF5), .val (.int zF5), .unset] [(.int (zF5 + (1 : Int32)))])) _
    refine XS.bipush X114.here hx rfl (hb hby at_224) ?_
    exact k
  by_cases hc226_117 : (zF5 + (1 : Int32)) < (6 : Int32)
  · skip
    obtain ⟨cl118, Ar118, qc118, Sz118, Nn118, Hh118, Gg118⟩ := (id F104)
    have hin118 : ¬ (zF5 < 0 ∨ cl118.slots.size ≤ (zF5).toNatClampNeg) := inb_of Sz118 ⟨hr_zF5.1, (own_l6 _ hr_zF5.1 hr_zF5.2 hc226_117)⟩
    obtain ⟨zg118, hzg118⟩ : ∃ z, z = (own_get6 c0 c1 c2 c3 c4 c5 zF5) := ⟨_, rfl⟩
    have hs118 := own_has6 Hh118 hin118 hr_zF5.1 (own_l6 _ hr_zF5.1 hr_zF5.2 hc226_117)
    rw [← hzg118] at hs118
    have k119 : ∀ t, Steps p.tables e below (T114.setTop (mkF m 236 #[.val (.int p0_0), .val (.int p0_1), .val (.int p0_2), .val (.int p0_3), .val (.ref b1), .val (.ref b34), .val (.int zS), .val (.ref b88), .val (.int zF5), .val (.int zF5), .unset] [(.int (46 : Int32)), (.int zg118)])) t → Steps p.tables e below (s₁.setTop (entryFrame m #[(.int p0_0), (.int p0_1), (.int p0_2), (.int p0_3)] maxLocals)) t := by
      intro t k
      refine k116 t ?_
      show Steps p.tables e below (T114.setTop (mkF m 226 #[.val (.int p0_0), .val (.int p0_1), .val (.int p0_2), .val (.int p0_3), .val (.ref b1), .val (.ref b34), .val (.int zS), .val (.ref b88), .val (.int zF5), .val (.int zF5), .unset] [(.int (6 : Int32)), (.int (zF5 + (1 : Int32)))])) _
      refine XS.icmpNo X114.here hx rfl (hb hby at_226) rfl (tlt hc226_117).2.1 ?_
      show Steps p.tables e below (T114.setTop (mkF m 229 #[.val (.int p0_0), .val (.int p0_1), .val (.int p0_2), .val (.int p0_3), .val (.ref b1), .val (.ref b34), .val (.int zS), .val (.ref b88), .val (.int zF5), .val (.int zF5), .unset] [])) _
      refine XS.aload X114.here hx rfl (hb hby at_229) rfl rfl ?_
      show Steps p.tables e below (T114.setTop (mkF m 231 #[.val (.int p0_0), .val (.int p0_1), .val (.int p0_2), .val (.int p0_3), .val (.ref b1), .val (.ref b34), .val (.int zS), .val (.ref b88), .val (.int zF5), .val (.int zF5), .unset] [(.ref b34)])) _
      refine XS.iload X114.here hx rfl (hb hby at_231) rfl ?_
      show Steps p.tables e below (T114.setTop (mkF m 233 #[.val (.int p0_0), .val (.int p0_1), .val (.int p0_2), .val (.int p0_3), .val (.ref b1), .val (.ref b34), .val (.int zS), .val (.ref b88), .val (.int zF5), .val (.int zF5), .unset] [(.int zF5), (.ref b34)])) _
      refine X114.caload hx (j := zF5) (v := (.int zg118)) (by rw [eh114]; exact Ar118.1) (State.isArrayOf_alike hZ.alike Ar118.2.1) Ar118.2.2 hin118 hs118 (g := (mkF m 233 #[.val (.int p0_0), .val (.int p0_1), .val (.int p0_2), .val (.int p0_3), .val (.ref b1), .val (.ref b34), .val (.int zS), .val (.ref b88), .val (.int zF5), .val (.int zF5), .unset] [(.int zF5), (.ref b34)])) rfl rfl (hb hby at_233) _ ?_
      show Steps p.tables e below (T114.setTop (mkF m 234 #[.val (.int p0_0), .val (.int p0_1), .val (.int p0_2), .val (.int p0_3), .val (.ref b1), .val (.ref b34), .val (.int zS), .val (.ref b88), .val (.int zF5), .val (.int zF5), .unset] [(.int zg118)])) _
      refine XS.bipush X114.here hx rfl (hb hby at_234) ?_
      exact k
    by_cases hc236_120 : zg118 = (46 : Int32)
    · skip
      obtain ⟨cl121, Ar121, qc121, Sz121, Nn121, Hh121, Gg121⟩ := (id F104)
      have hin121 : ¬ ((zF5 + (1 : Int32)) < 0 ∨ cl121.slots.size ≤ ((zF5 + (1 : Int32))).toNatClampNeg) := inb_of Sz121 ⟨(own_nn _ hr_zF5.1 (own_l6 _ hr_zF5.1 hr_zF5.2 hc226_117)).1, hc226_117⟩
      obtain ⟨zg121, hzg121⟩ : ∃ z, z = (own_get6 c0 c1 c2 c3 c4 c5 (zF5 + (1 : Int32))) := ⟨_, rfl⟩
      have hs121 := own_has6 Hh121 hin121 (own_nn _ hr_zF5.1 (own_l6 _ hr_zF5.1 hr_zF5.2 hc226_117)).1 hc226_117
      rw [← hzg121] at hs121
      obtain ⟨_, _, ⟨T122, L122, k122, n122⟩, -, X122, ⟨Lc122, hQ122, l122, y122, z122⟩, st122⟩ := Jvm.LawKit.callS X114 hx (y := (⟨"com/example/oyster/oyster/engine/LiteralsNumberEndPinLaw", "dig", "(C)Z"⟩ : MethodName)) hown (mvT hZ (hw _ (List.mem_of_getElem? (i := 40) rfl))) (mvT hZ (hw _ (List.mem_of_getElem? (i := 41) rfl))) (mvT hZ (hw _ (List.mem_of_getElem? (i := 5) rfl))) (mvT hZ (hw _ (List.mem_of_getElem? (i := 42) rfl))) (by decide) (backOf (W := 0) (rm2 l Z a0 hw [] zg121 T97.heap n0 Zs97 ) hZ (hw _ (List.mem_of_getElem? (i := 42) rfl)) (hw _ (List.mem_of_getElem? (i := 5) rfl)) (by decide) (by decide)) (g := (mkF m 246 #[.val (.int p0_0), .val (.int p0_1), .val (.int p0_2), .val (.int p0_3), .val (.ref b1), .val (.ref b34), .val (.int zS), .val (.ref b88), .val (.int zF5), .val (.int zF5), .unset] [(.int zg121)])) rfl (by rw [hml]; rfl) (argsL := [(.int zg121)]) (rest := []) (lenOf pd_0 rfl) rfl (by show 2 * 0 + _ ≤ _; exact Nat.le_of_eq rfl) (hb hby at_246) (fun _ _ => ⟨rfl, eh114, (by decide : 4 + 0 ≤ _), (by decide : 22 + 0 ≤ _)⟩)
      dsimp only [Pt.U, Pt.locs, Pt.cells, Pt.slots] at X122 l122 y122 z122 st122 hQ122
      rw [l122, y122, z122] at X122
      obtain ⟨rfl, N122q, eh122⟩ := hQ122
      have N122 := Fr.app N114 N122q
      have k123 : ∀ t, Steps p.tables e below (T122.setTop (mkF m 249 #[.val (.int p0_0), .val (.int p0_1), .val (.int p0_2), .val (.int p0_3), .val (.ref b1), .val (.ref b34), .val (.int zS), .val (.ref b88), .val (.int zF5), .val (.int zF5), .unset] [(.int (own_dg zg121))])) t → Steps p.tables e below (s₁.setTop (entryFrame m #[(.int p0_0), (.int p0_1), (.int p0_2), (.int p0_3)] maxLocals)) t := by
        intro t k
        refine k119 t ?_
        show Steps p.tables e below (T114.setTop (mkF m 236 #[.val (.int p0_0), .val (.int p0_1), .val (.int p0_2), .val (.int p0_3), .val (.ref b1), .val (.ref b34), .val (.int zS), .val (.ref b88), .val (.int zF5), .val (.int zF5), .unset] [(.int (46 : Int32)), (.int zg118)])) _
        refine XS.icmpNo X114.here hx rfl (hb hby at_236) rfl (teq hc236_120).2 ?_
        show Steps p.tables e below (T114.setTop (mkF m 239 #[.val (.int p0_0), .val (.int p0_1), .val (.int p0_2), .val (.int p0_3), .val (.ref b1), .val (.ref b34), .val (.int zS), .val (.ref b88), .val (.int zF5), .val (.int zF5), .unset] [])) _
        refine XS.aload X114.here hx rfl (hb hby at_239) rfl rfl ?_
        show Steps p.tables e below (T114.setTop (mkF m 241 #[.val (.int p0_0), .val (.int p0_1), .val (.int p0_2), .val (.int p0_3), .val (.ref b1), .val (.ref b34), .val (.int zS), .val (.ref b88), .val (.int zF5), .val (.int zF5), .unset] [(.ref b34)])) _
        refine XS.iload X114.here hx rfl (hb hby at_241) rfl ?_
        show Steps p.tables e below (T114.setTop (mkF m 243 #[.val (.int p0_0), .val (.int p0_1), .val (.int p0_2), .val (.int p0_3), .val (.ref b1), .val (.ref b34), .val (.int zS), .val (.ref b88), .val (.int zF5), .val (.int zF5), .unset] [(.int zF5), (.ref b34)])) _
        refine XS.iconst X114.here hx rfl (hb hby at_243) ?_
        show Steps p.tables e below (T114.setTop (mkF m 244 #[.val (.int p0_0), .val (.int p0_1), .val (.int p0_2), .val (.int p0_3), .val (.ref b1), .val (.ref b34), .val (.int zS), .val (.ref b88), .val (.int zF5), .val (.int zF5), .unset] [(.int (1 : Int32)), (.int zF5), (.ref b34)])) _
        refine XS.iadd X114.here hx rfl (hb hby at_244) rfl ?_
        show Steps p.tables e below (T114.setTop (mkF m 245 #[.val (.int p0_0), .val (.int p0_1), .val (.int p0_2), .val (.int p0_3), .val (.ref b1), .val (.ref b34), .val (.int zS), .val (.ref b88), .val (.int zF5), .val (.int zF5), .unset] [(.int (zF5 + (1 : Int32))), (.ref b34)])) _
        refine X114.caload hx (j := (zF5 + (1 : Int32))) (v := (.int zg121)) (by rw [eh114]; exact Ar121.1) (State.isArrayOf_alike hZ.alike Ar121.2.1) Ar121.2.2 hin121 hs121 (g := (mkF m 245 #[.val (.int p0_0), .val (.int p0_1), .val (.int p0_2), .val (.int p0_3), .val (.ref b1), .val (.ref b34), .val (.int zS), .val (.ref b88), .val (.int zF5), .val (.int zF5), .unset] [(.int (zF5 + (1 : Int32))), (.ref b34)])) rfl rfl (hb hby at_245) _ ?_
        show Steps p.tables e below (T114.setTop (mkF m 246 #[.val (.int p0_0), .val (.int p0_1), .val (.int p0_2), .val (.int p0_3), .val (.ref b1), .val (.ref b34), .val (.int zS), .val (.ref b88), .val (.int zF5), .val (.int zF5), .unset] [(.int zg121)])) _
        refine st122 _ ?_
        exact k
      by_cases hc249_124 : (own_dg zg121) = (0 : Int32)
      · skip
        obtain ⟨_, _, ⟨T125, L125, k125, n125⟩, -, X125, ⟨Lc125, hQ125, l125, y125, z125⟩, st125⟩ := Jvm.LawKit.callS X122 hx (y := (⟨"com/example/oyster/oyster/engine/Literals", "numberEnd", "(Ljava/lang/String;I)I"⟩ : MethodName)) hown (mvT hZ (hw _ (List.mem_of_getElem? (i := 43) rfl))) (mvT hZ (hw _ (List.mem_of_getElem? (i := 44) rfl))) (mvT hZ (hw _ (List.mem_of_getElem? (i := 45) rfl))) (mvT hZ (hw _ (List.mem_of_getElem? (i := 46) rfl))) (by decide) (backOf (W := 0) (rm6 l Z a0 hw [] b88 zS t97 kb97 cs fm c0 c1 c2 c3 c4 c5 T97.heap n0 Zs97 G97_0 G97_2 G97_1 G97_3 F101 F102 hS0 (own_le6 hS6) hcs hfm hp) hZ (hw _ (List.mem_of_getElem? (i := 46) rfl)) (hw _ (List.mem_of_getElem? (i := 45) rfl)) (by decide) (by decide)) (g := (mkF m 302 #[.val (.int p0_0), .val (.int p0_1), .val (.int p0_2), .val (.int p0_3), .val (.ref b1), .val (.ref b34), .val (.int zS), .val (.ref b88), .val (.int zF5), .val (.int zF5), .unset] [(.int zS), (.ref b88)])) rfl (by rw [hml]; rfl) (argsL := [(.ref b88), (.int zS)]) (rest := []) (lenOf pd_3 rfl) rfl (by show 2 * 0 + _ ≤ _; exact Nat.le_of_eq rfl) (hb hby at_302) (fun _ _ => ⟨rfl, eh122, (by decide : 4 + 0 ≤ _), (by decide : 22 + 0 ≤ _)⟩)
        dsimp only [Pt.U, Pt.locs, Pt.cells, Pt.slots] at X125 l125 y125 z125 st125 hQ125
        rw [l125, y125, z125] at X125
        obtain ⟨rfl, N125q, eh125⟩ := hQ125
        have N125 := Fr.app N122 N125q
        have k126 : ∀ t, Steps p.tables e below (T125.setTop (mkF m 315 #[.val (.int p0_0), .val (.int p0_1), .val (.int p0_2), .val (.int p0_3), .val (.ref b1), .val (.ref b34), .val (.int zS), .val (.ref b88), .val (.int zF5), .val (.int zF5), .unset] [(.int (1 : Int32))])) t → Steps p.tables e below (s₁.setTop (entryFrame m #[(.int p0_0), (.int p0_1), (.int p0_2), (.int p0_3)] maxLocals)) t := by
          intro t k
          refine k123 t ?_
          show Steps p.tables e below (T122.setTop (mkF m 249 #[.val (.int p0_0), .val (.int p0_1), .val (.int p0_2), .val (.int p0_3), .val (.ref b1), .val (.ref b34), .val (.int zS), .val (.ref b88), .val (.int zF5), .val (.int zF5), .unset] [(.int (own_dg zg121))])) _
          refine XS.ifYes X122.here hx rfl (pc0 := 249) (pc' := 298) rfl (hb hby at_249) rfl ((if0 _ _).trans (teq hc249_124).1) (by decide) (by decide) ?_
          show Steps p.tables e below (T122.setTop (mkF m 298 #[.val (.int p0_0), .val (.int p0_1), .val (.int p0_2), .val (.int p0_3), .val (.ref b1), .val (.ref b34), .val (.int zS), .val (.ref b88), .val (.int zF5), .val (.int zF5), .unset] [])) _
          refine XS.aload X122.here hx rfl (hb hby at_298) rfl rfl ?_
          show Steps p.tables e below (T122.setTop (mkF m 300 #[.val (.int p0_0), .val (.int p0_1), .val (.int p0_2), .val (.int p0_3), .val (.ref b1), .val (.ref b34), .val (.int zS), .val (.ref b88), .val (.int zF5), .val (.int zF5), .unset] [(.ref b88)])) _
          refine XS.iload X122.here hx rfl (hb hby at_300) rfl ?_
          show Steps p.tables e below (T122.setTop (mkF m 302 #[.val (.int p0_0), .val (.int p0_1), .val (.int p0_2), .val (.int p0_3), .val (.ref b1), .val (.ref b34), .val (.int zS), .val (.ref b88), .val (.int zF5), .val (.int zF5), .unset] [(.int zS), (.ref b88)])) _
          refine st125 _ ?_
          show Steps p.tables e below (T125.setTop (mkF m 305 #[.val (.int p0_0), .val (.int p0_1), .val (.int p0_2), .val (.int p0_3), .val (.ref b1), .val (.ref b34), .val (.int zS), .val (.ref b88), .val (.int zF5), .val (.int zF5), .unset] [(.int (own_ne zS c0 c1 c2 c3 c4 c5))])) _
          refine XS.iload X125.here hx rfl (hb hby at_305) rfl ?_
          show Steps p.tables e below (T125.setTop (mkF m 307 #[.val (.int p0_0), .val (.int p0_1), .val (.int p0_2), .val (.int p0_3), .val (.ref b1), .val (.ref b34), .val (.int zS), .val (.ref b88), .val (.int zF5), .val (.int zF5), .unset] [(.int zF5), (.int (own_ne zS c0 c1 c2 c3 c4 c5))])) _
          refine XS.icmpNo X125.here hx rfl (hb hby at_307) rfl (teq (by have hR := own_R zS c0 c1 c2 c3 c4 c5 hS0 hS6 hdg; rw [← hzF0, ← hzF1, ← hzF2, ← hzF3, ← hzF4, ← hzF5] at hR; unfold own_ne; rw [hR, if_pos hc226_117, if_pos (show own_get6 c0 c1 c2 c3 c4 c5 zF5 = (46 : Int32) from hzg118.symm.trans hc236_120), if_pos (show own_dg2 (own_get6 c0 c1 c2 c3 c4 c5 (zF5 + (1 : Int32))) = (0 : Int32) from (congrArg own_dg hzg121).symm.trans hc249_124)])).2 ?_
          show Steps p.tables e below (T125.setTop (mkF m 310 #[.val (.int p0_0), .val (.int p0_1), .val (.int p0_2), .val (.int p0_3), .val (.ref b1), .val (.ref b34), .val (.int zS), .val (.ref b88), .val (.int zF5), .val (.int zF5), .unset] [])) _
          refine XS.iconst X125.here hx rfl (hb hby at_310) ?_
          show Steps p.tables e below (T125.setTop (mkF m 311 #[.val (.int p0_0), .val (.int p0_1), .val (.int p0_2), .val (.int p0_3), .val (.ref b1), .val (.ref b34), .val (.int zS), .val (.ref b88), .val (.int zF5), .val (.int zF5), .unset] [(.int (1 : Int32))])) _
          refine XS.goto X125.here hx rfl (pc0 := 311) (pc' := 315) rfl (hb hby at_311) (by decide) (by decide) ?_
          exact k
        obtain ⟨fs, hr, hrun, hended, hW, hsame⟩ := X125.leave (v := some (.int (1 : Int32))) (fun h => by rw [Bd.returns] at h; cases h)
        refine ⟨_, _, k126 _ ?_, hrun, hended, _, _, rfl, ?_, ⟨_, rfl⟩, hW, hsame.mono (by decide) (by decide)⟩
        · exact retN X125 hx (t := .boolean) Bd.returns (by simp) (hb hby at_315) hr
        · show Q0 Z p0_0 p0_1 p0_2 p0_3 cs fm h0 n0 _ T125.heap _
          rw [eh125]
          exact ⟨rfl, N125⟩
      · skip
        have k127 : ∀ t, Steps p.tables e below (T122.setTop (mkF m 256 #[.val (.int p0_0), .val (.int p0_1), .val (.int p0_2), .val (.int p0_3), .val (.ref b1), .val (.ref b34), .val (.int zS), .val (.ref b88), .val (.int zF5), .val (.int zF5), .unset] [(.int (zF5 + (2 : Int32)))])) t → Steps p.tables e below (s₁.setTop (entryFrame m #[(.int p0_0), (.int p0_1), (.int p0_2), (.int p0_3)] maxLocals)) t := by
          intro t k
          refine k123 t ?_
          show Steps p.tables e below (T122.setTop (mkF m 249 #[.val (.int p0_0), .val (.int p0_1), .val (.int p0_2), .val (.int p0_3), .val (.ref b1), .val (.ref b34), .val (.int zS), .val (.ref b88), .val (.int zF5), .val (.int zF5), .unset] [(.int (own_dg zg121))])) _
          refine XS.ifNo X122.here hx rfl (hb hby at_249) rfl ((if0 _ _).trans (feq hc249_124).1) ?_
          show Steps p.tables e below (T122.setTop (mkF m 252 #[.val (.int p0_0), .val (.int p0_1), .val (.int p0_2), .val (.int p0_3), .val (.ref b1), .val (.ref b34), .val (.int zS), .val (.ref b88), .val (.int zF5), .val (.int zF5), .unset] [])) _
          refine XS.iload X122.here hx rfl (hb hby at_252) rfl ?_
          show Steps p.tables e below (T122.setTop (mkF m 254 #[.val (.int p0_0), .val (.int p0_1), .val (.int p0_2), .val (.int p0_3), .val (.ref b1), .val (.ref b34), .val (.int zS), .val (.ref b88), .val (.int zF5), .val (.int zF5), .unset] [(.int zF5)])) _
          refine XS.iconst X122.here hx rfl (hb hby at_254) ?_
          show Steps p.tables e below (T122.setTop (mkF m 255 #[.val (.int p0_0), .val (.int p0_1), .val (.int p0_2), .val (.int p0_3), .val (.ref b1), .val (.ref b34), .val (.int zS), .val (.ref b88), .val (.int zF5), .val (.int zF5), .unset] [(.int (2 : Int32)), (.int zF5)])) _
          refine XS.iadd X122.here hx rfl (hb hby at_255) rfl ?_
          exact k
        obtain ⟨zG0, hzG0⟩ : ∃ z, z = (zF5 + (2 : Int32)) := ⟨_, rfl⟩
        rw [← hzG0] at k127
        have hr_zG0 := (And.intro (own_p2 zF5 hr_zF5.1 hr_zF5.2 hc226_117).1 (own_p2 zF5 hr_zF5.1 hr_zF5.2 hc226_117).2.1)
        rw [← hzG0] at hr_zG0
        obtain ⟨_, _, ⟨T128, L128, k128, n128⟩, -, X128, ⟨Lc128, hQ128, l128, y128, z128⟩, st128⟩ := Jvm.LawKit.callS X122 hx (y := (⟨"com/example/oyster/oyster/engine/LiteralsNumberEndPinLaw", "step", "([CI)I"⟩ : MethodName)) hown (mvT hZ (hw _ (List.mem_of_getElem? (i := 37) rfl))) (mvT hZ (hw _ (List.mem_of_getElem? (i := 38) rfl))) (mvT hZ (hw _ (List.mem_of_getElem? (i := 5) rfl))) (mvT hZ (hw _ (List.mem_of_getElem? (i := 39) rfl))) (by decide) (backOf (W := 0) (rm4 l Z a0 hw [] b34 zG0 k34 c0 c1 c2 c3 c4 c5 T97.heap n0 Zs97 F104 hr_zG0.1) hZ (hw _ (List.mem_of_getElem? (i := 39) rfl)) (hw _ (List.mem_of_getElem? (i := 5) rfl)) (by decide) (by decide)) (g := (mkF m 262 #[.val (.int p0_0), .val (.int p0_1), .val (.int p0_2), .val (.int p0_3), .val (.ref b1), .val (.ref b34), .val (.int zS), .val (.ref b88), .val (.int zF5), .val (.int zF5), .val (.int zG0)] [(.int zG0), (.ref b34)])) rfl (by rw [hml]; rfl) (argsL := [(.ref b34), (.int zG0)]) (rest := []) (lenOf pd_5 rfl) rfl (by show 2 * 0 + _ ≤ _; exact Nat.le_of_eq rfl) (hb hby at_262) (fun _ _ => ⟨rfl, eh122, (by decide : 4 + 0 ≤ _), (by decide : 22 + 0 ≤ _)⟩)
        dsimp only [Pt.U, Pt.locs, Pt.cells, Pt.slots] at X128 l128 y128 z128 st128 hQ128
        rw [l128, y128, z128] at X128
        obtain ⟨rfl, N128q, eh128⟩ := hQ128
        have N128 := Fr.app N122 N128q
        have k129 : ∀ t, Steps p.tables e below (T128.setTop (mkF m 265 #[.val (.int p0_0), .val (.int p0_1), .val (.int p0_2), .val (.int p0_3), .val (.ref b1), .val (.ref b34), .val (.int zS), .val (.ref b88), .val (.int zF5), .val (.int zF5), .val (.int zG0)] [(.int (own_stp zG0 c0 c1 c2 c3 c4 c5))])) t → Steps p.tables e below (s₁.setTop (entryFrame m #[(.int p0_0), (.int p0_1), (.int p0_2), (.int p0_3)] maxLocals)) t := by
          intro t k
          refine k127 t ?_
          show Steps p.tables e below (T122.setTop (mkF m 256 #[.val (.int p0_0), .val (.int p0_1), .val (.int p0_2), .val (.int p0_3), .val (.ref b1), .val (.ref b34), .val (.int zS), .val (.ref b88), .val (.int zF5), .val (.int zF5), .unset] [(.int zG0)])) _
          refine XS.istore X122.here hx rfl (hb hby at_256) rfl (l' := #[.val (.int p0_0), .val (.int p0_1), .val (.int p0_2), .val (.int p0_3), .val (.ref b1), .val (.ref b34), .val (.int zS), .val (.ref b88), .val (.int zF5), .val (.int zF5), .val (.int zG0)]) rfl ?_
          show Steps p.tables e below (T122.setTop (mkF m 258 #[.val (.int p0_0), .val (.int p0_1), .val (.int p0_2), .val (.int p0_3), .val (.ref b1), .val (.ref b34), .val (.int zS), .val (.ref b88), .val (.int zF5), .val (.int zF5), .val (.int zG0)] [])) _
          refine XS.aload X122.here hx rfl (hb hby at_258) rfl rfl ?_
          show Steps p.tables e below (T122.setTop (mkF m 260 #[.val (.int p0_0), .val (.int p0_1), .val (.int p0_2), .val (.int p0_3), .val (.ref b1), .val (.ref b34), .val (.int zS), .val (.ref b88), .val (.int zF5), .val (.int zF5), .val (.int zG0)] [(.ref b34)])) _
          refine XS.iload X122.here hx rfl (hb hby at_260) rfl ?_
          show Steps p.tables e below (T122.setTop (mkF m 262 #[.val (.int p0_0), .val (.int p0_1), .val (.int p0_2), .val (.int p0_3), .val (.ref b1), .val (.ref b34), .val (.int zS), .val (.ref b88), .val (.int zF5), .val (.int zF5), .val (.int zG0)] [(.int zG0), (.ref b34)])) _
          refine st128 _ ?_
          exact k
        obtain ⟨zG1, hzG1⟩ : ∃ z, z = (own_stp zG0 c0 c1 c2 c3 c4 c5) := ⟨_, rfl⟩
        rw [← hzG1] at k129
        have hr_zG1 := own_stp_rng zG0 c0 c1 c2 c3 c4 c5 hr_zG0.1 hr_zG0.2
        rw [← hzG1] at hr_zG1
        obtain ⟨_, _, ⟨T130, L130, k130, n130⟩, -, X130, ⟨Lc130, hQ130, l130, y130, z130⟩, st130⟩ := Jvm.LawKit.callS X128 hx (y := (⟨"com/example/oyster/oyster/engine/LiteralsNumberEndPinLaw", "step", "([CI)I"⟩ : MethodName)) hown (mvT hZ (hw _ (List.mem_of_getElem? (i := 37) rfl))) (mvT hZ (hw _ (List.mem_of_getElem? (i := 38) rfl))) (mvT hZ (hw _ (List.mem_of_getElem? (i := 5) rfl))) (mvT hZ (hw _ (List.mem_of_getElem? (i := 39) rfl))) (by decide) (backOf (W := 0) (rm4 l Z a0 hw [] b34 zG1 k34 c0 c1 c2 c3 c4 c5 T97.heap n0 Zs97 F104 hr_zG1.1) hZ (hw _ (List.mem_of_getElem? (i := 39) rfl)) (hw _ (List.mem_of_getElem? (i := 5) rfl)) (by decide) (by decide)) (g := (mkF m 271 #[.val (.int p0_0), .val (.int p0_1), .val (.int p0_2), .val (.int p0_3), .val (.ref b1), .val (.ref b34), .val (.int zS), .val (.ref b88), .val (.int zF5), .val (.int zF5), .val (.int zG1)] [(.int zG1), (.ref b34)])) rfl (by rw [hml]; rfl) (argsL := [(.ref b34), (.int zG1)]) (rest := []) (lenOf pd_5 rfl) rfl (by show 2 * 0 + _ ≤ _; exact Nat.le_of_eq rfl) (hb hby at_271) (fun _ _ => ⟨rfl, eh128, (by decide : 4 + 0 ≤ _), (by decide : 22 + 0 ≤ _)⟩)
        dsimp only [Pt.U, Pt.locs, Pt.cells, Pt.slots] at X130 l130 y130 z130 st130 hQ130
        rw [l130, y130, z130] at X130
        obtain ⟨rfl, N130q, eh130⟩ := hQ130
        have N130 := Fr.app N128 N130q
        have k131 : ∀ t, Steps p.tables e below (T130.setTop (mkF m 274 #[.val (.int p0_0), .val (.int p0_1), .val (.int p0_2), .val (.int p0_3), .val (.ref b1), .val (.ref b34), .val (.int zS), .val (.ref b88), .val (.int zF5), .val (.int zF5), .val (.int zG1)] [(.int (own_stp zG1 c0 c1 c2 c3 c4 c5))])) t → Steps p.tables e below (s₁.setTop (entryFrame m #[(.int p0_0), (.int p0_1), (.int p0_2), (.int p0_3)] maxLocals)) t := by
          intro t k
          refine k129 t ?_
          show Steps p.tables e below (T128.setTop (mkF m 265 #[.val (.int p0_0), .val (.int p0_1), .val (.int p0_2), .val (.int p0_3), .val (.ref b1), .val (.ref b34), .val (.int zS), .val (.ref b88), .val (.int zF5), .val (.int zF5), .val (.int zG0)] [(.int zG1)])) _
          refine XS.istore X128.here hx rfl (hb hby at_265) rfl (l' := #[.val (.int p0_0), .val (.int p0_1), .val (.int p0_2), .val (.int p0_3), .val (.ref b1), .val (.ref b34), .val (.int zS), .val (.ref b88), .val (.int zF5), .val (.int zF5), .val (.int zG1)]) rfl ?_
          show Steps p.tables e below (T128.setTop (mkF m 267 #[.val (.int p0_0), .val (.int p0_1), .val (.int p0_2), .val (.int p0_3), .val (.ref b1), .val (.ref b34), .val (.int zS), .val (.ref b88), .val (.int zF5), .val (.int zF5), .val (.int zG1)] [])) _
          refine XS.aload X128.here hx rfl (hb hby at_267) rfl rfl ?_
          show Steps p.tables e below (T128.setTop (mkF m 269 #[.val (.int p0_0), .val (.int p0_1), .val (.int p0_2), .val (.int p0_3), .val (.ref b1), .val (.ref b34), .val (.int zS), .val (.ref b88), .val (.int zF5), .val (.int zF5), .val (.int zG1)] [(.ref b34)])) _
          refine XS.iload X128.here hx rfl (hb hby at_269) rfl ?_
          show Steps p.tables e below (T128.setTop (mkF m 271 #[.val (.int p0_0), .val (.int p0_1), .val (.int p0_2), .val (.int p0_3), .val (.ref b1), .val (.ref b34), .val (.int zS), .val (.ref b88), .val (.int zF5), .val (.int zF5), .val (.int zG1)] [(.int zG1), (.ref b34)])) _
          refine st130 _ ?_
          exact k
        obtain ⟨zG2, hzG2⟩ : ∃ z, z = (own_stp zG1 c0 c1 c2 c3 c4 c5) := ⟨_, rfl⟩
        rw [← hzG2] at k131
        have hr_zG2 := own_stp_rng zG1 c0 c1 c2 c3 c4 c5 hr_zG1.1 hr_zG1.2
        rw [← hzG2] at hr_zG2
        obtain ⟨_, _, ⟨T132, L132, k132, n132⟩, -, X132, ⟨Lc132, hQ132, l132, y132, z132⟩, st132⟩ := Jvm.LawKit.callS X130 hx (y := (⟨"com/example/oyster/oyster/engine/LiteralsNumberEndPinLaw", "step", "([CI)I"⟩ : MethodName)) hown (mvT hZ (hw _ (List.mem_of_getElem? (i := 37) rfl))) (mvT hZ (hw _ (List.mem_of_getElem? (i := 38) rfl))) (mvT hZ (hw _ (List.mem_of_getElem? (i := 5) rfl))) (mvT hZ (hw _ (List.mem_of_getElem? (i := 39) rfl))) (by decide) (backOf (W := 0) (rm4 l Z a0 hw [] b34 zG2 k34 c0 c1 c2 c3 c4 c5 T97.heap n0 Zs97 F104 hr_zG2.1) hZ (hw _ (List.mem_of_getElem? (i := 39) rfl)) (hw _ (List.mem_of_getElem? (i := 5) rfl)) (by decide) (by decide)) (g := (mkF m 280 #[.val (.int p0_0), .val (.int p0_1), .val (.int p0_2), .val (.int p0_3), .val (.ref b1), .val (.ref b34), .val (.int zS), .val (.ref b88), .val (.int zF5), .val (.int zF5), .val (.int zG2)] [(.int zG2), (.ref b34)])) rfl (by rw [hml]; rfl) (argsL := [(.ref b34), (.int zG2)]) (rest := []) (lenOf pd_5 rfl) rfl (by show 2 * 0 + _ ≤ _; exact Nat.le_of_eq rfl) (hb hby at_280) (fun _ _ => ⟨rfl, eh130, (by decide : 4 + 0 ≤ _), (by decide : 22 + 0 ≤ _)⟩)
        dsimp only [Pt.U, Pt.locs, Pt.cells, Pt.slots] at X132 l132 y132 z132 st132 hQ132
        rw [l132, y132, z132] at X132
        obtain ⟨rfl, N132q, eh132⟩ := hQ132
        have N132 := Fr.app N130 N132q
        have k133 : ∀ t, Steps p.tables e below (T132.setTop (mkF m 283 #[.val (.int p0_0), .val (.int p0_1), .val (.int p0_2), .val (.int p0_3), .val (.ref b1), .val (.ref b34), .val (.int zS), .val (.ref b88), .val (.int zF5), .val (.int zF5), .val (.int zG2)] [(.int (own_stp zG2 c0 c1 c2 c3 c4 c5))])) t → Steps p.tables e below (s₁.setTop (entryFrame m #[(.int p0_0), (.int p0_1), (.int p0_2), (.int p0_3)] maxLocals)) t := by
          intro t k
          refine k131 t ?_
          show Steps p.tables e below (T130.setTop (mkF m 274 #[.val (.int p0_0), .val (.int p0_1), .val (.int p0_2), .val (.int p0_3), .val (.ref b1), .val (.ref b34), .val (.int zS), .val (.ref b88), .val (.int zF5), .val (.int zF5), .val (.int zG1)] [(.int zG2)])) _
          refine XS.istore X130.here hx rfl (hb hby at_274) rfl (l' := #[.val (.int p0_0), .val (.int p0_1), .val (.int p0_2), .val (.int p0_3), .val (.ref b1), .val (.ref b34), .val (.int zS), .val (.ref b88), .val (.int zF5), .val (.int zF5), .val (.int zG2)]) rfl ?_
          show Steps p.tables e below (T130.setTop (mkF m 276 #[.val (.int p0_0), .val (.int p0_1), .val (.int p0_2), .val (.int p0_3), .val (.ref b1), .val (.ref b34), .val (.int zS), .val (.ref b88), .val (.int zF5), .val (.int zF5), .val (.int zG2)] [])) _
          refine XS.aload X130.here hx rfl (hb hby at_276) rfl rfl ?_
          show Steps p.tables e below (T130.setTop (mkF m 278 #[.val (.int p0_0), .val (.int p0_1), .val (.int p0_2), .val (.int p0_3), .val (.ref b1), .val (.ref b34), .val (.int zS), .val (.ref b88), .val (.int zF5), .val (.int zF5), .val (.int zG2)] [(.ref b34)])) _
          refine XS.iload X130.here hx rfl (hb hby at_278) rfl ?_
          show Steps p.tables e below (T130.setTop (mkF m 280 #[.val (.int p0_0), .val (.int p0_1), .val (.int p0_2), .val (.int p0_3), .val (.ref b1), .val (.ref b34), .val (.int zS), .val (.ref b88), .val (.int zF5), .val (.int zF5), .val (.int zG2)] [(.int zG2), (.ref b34)])) _
          refine st132 _ ?_
          exact k
        obtain ⟨zG3, hzG3⟩ : ∃ z, z = (own_stp zG2 c0 c1 c2 c3 c4 c5) := ⟨_, rfl⟩
        rw [← hzG3] at k133
        have hr_zG3 := own_stp_rng zG2 c0 c1 c2 c3 c4 c5 hr_zG2.1 hr_zG2.2
        rw [← hzG3] at hr_zG3
        obtain ⟨_, _, ⟨T134, L134, k134, n134⟩, -, X134, ⟨Lc134, hQ134, l134, y134, z134⟩, st134⟩ := Jvm.LawKit.callS X132 hx (y := (⟨"com/example/oyster/oyster/engine/LiteralsNumberEndPinLaw", "step", "([CI)I"⟩ : MethodName)) hown (mvT hZ (hw _ (List.mem_of_getElem? (i := 37) rfl))) (mvT hZ (hw _ (List.mem_of_getElem? (i := 38) rfl))) (mvT hZ (hw _ (List.mem_of_getElem? (i := 5) rfl))) (mvT hZ (hw _ (List.mem_of_getElem? (i := 39) rfl))) (by decide) (backOf (W := 0) (rm4 l Z a0 hw [] b34 zG3 k34 c0 c1 c2 c3 c4 c5 T97.heap n0 Zs97 F104 hr_zG3.1) hZ (hw _ (List.mem_of_getElem? (i := 39) rfl)) (hw _ (List.mem_of_getElem? (i := 5) rfl)) (by decide) (by decide)) (g := (mkF m 289 #[.val (.int p0_0), .val (.int p0_1), .val (.int p0_2), .val (.int p0_3), .val (.ref b1), .val (.ref b34), .val (.int zS), .val (.ref b88), .val (.int zF5), .val (.int zF5), .val (.int zG3)] [(.int zG3), (.ref b34)])) rfl (by rw [hml]; rfl) (argsL := [(.ref b34), (.int zG3)]) (rest := []) (lenOf pd_5 rfl) rfl (by show 2 * 0 + _ ≤ _; exact Nat.le_of_eq rfl) (hb hby at_289) (fun _ _ => ⟨rfl, eh132, (by decide : 4 + 0 ≤ _), (by decide : 22 + 0 ≤ _)⟩)
        dsimp only [Pt.U, Pt.locs, Pt.cells, Pt.slots] at X134 l134 y134 z134 st134 hQ134
        rw [l134, y134, z134] at X134
        obtain ⟨rfl, N134q, eh134⟩ := hQ134
        have N134 := Fr.app N132 N134q
        have k135 : ∀ t, Steps p.tables e below (T134.setTop (mkF m 292 #[.val (.int p0_0), .val (.int p0_1), .val (.int p0_2), .val (.int p0_3), .val (.ref b1), .val (.ref b34), .val (.int zS), .val (.ref b88), .val (.int zF5), .val (.int zF5), .val (.int zG3)] [(.int (own_stp zG3 c0 c1 c2 c3 c4 c5))])) t → Steps p.tables e below (s₁.setTop (entryFrame m #[(.int p0_0), (.int p0_1), (.int p0_2), (.int p0_3)] maxLocals)) t := by
          intro t k
          refine k133 t ?_
          show Steps p.tables e below (T132.setTop (mkF m 283 #[.val (.int p0_0), .val (.int p0_1), .val (.int p0_2), .val (.int p0_3), .val (.ref b1), .val (.ref b34), .val (.int zS), .val (.ref b88), .val (.int zF5), .val (.int zF5), .val (.int zG2)] [(.int zG3)])) _
          refine XS.istore X132.here hx rfl (hb hby at_283) rfl (l' := #[.val (.int p0_0), .val (.int p0_1), .val (.int p0_2), .val (.int p0_3), .val (.ref b1), .val (.ref b34), .val (.int zS), .val (.ref b88), .val (.int zF5), .val (.int zF5), .val (.int zG3)]) rfl ?_
          show Steps p.tables e below (T132.setTop (mkF m 285 #[.val (.int p0_0), .val (.int p0_1), .val (.int p0_2), .val (.int p0_3), .val (.ref b1), .val (.ref b34), .val (.int zS), .val (.ref b88), .val (.int zF5), .val (.int zF5), .val (.int zG3)] [])) _
          refine XS.aload X132.here hx rfl (hb hby at_285) rfl rfl ?_
          show Steps p.tables e below (T132.setTop (mkF m 287 #[.val (.int p0_0), .val (.int p0_1), .val (.int p0_2), .val (.int p0_3), .val (.ref b1), .val (.ref b34), .val (.int zS), .val (.ref b88), .val (.int zF5), .val (.int zF5), .val (.int zG3)] [(.ref b34)])) _
          refine XS.iload X132.here hx rfl (hb hby at_287) rfl ?_
          show Steps p.tables e below (T132.setTop (mkF m 289 #[.val (.int p0_0), .val (.int p0_1), .val (.int p0_2), .val (.int p0_3), .val (.ref b1), .val (.ref b34), .val (.int zS), .val (.ref b88), .val (.int zF5), .val (.int zF5), .val (.int zG3)] [(.int zG3), (.ref b34)])) _
          refine st134 _ ?_
          exact k
        obtain ⟨zG4, hzG4⟩ : ∃ z, z = (own_stp zG3 c0 c1 c2 c3 c4 c5) := ⟨_, rfl⟩
        rw [← hzG4] at k135
        have hr_zG4 := own_stp_rng zG3 c0 c1 c2 c3 c4 c5 hr_zG3.1 hr_zG3.2
        rw [← hzG4] at hr_zG4
        obtain ⟨_, _, ⟨T136, L136, k136, n136⟩, -, X136, ⟨Lc136, hQ136, l136, y136, z136⟩, st136⟩ := Jvm.LawKit.callS X134 hx (y := (⟨"com/example/oyster/oyster/engine/Literals", "numberEnd", "(Ljava/lang/String;I)I"⟩ : MethodName)) hown (mvT hZ (hw _ (List.mem_of_getElem? (i := 43) rfl))) (mvT hZ (hw _ (List.mem_of_getElem? (i := 44) rfl))) (mvT hZ (hw _ (List.mem_of_getElem? (i := 45) rfl))) (mvT hZ (hw _ (List.mem_of_getElem? (i := 46) rfl))) (by decide) (backOf (W := 0) (rm6 l Z a0 hw [] b88 zS t97 kb97 cs fm c0 c1 c2 c3 c4 c5 T97.heap n0 Zs97 G97_0 G97_2 G97_1 G97_3 F101 F102 hS0 (own_le6 hS6) hcs hfm hp) hZ (hw _ (List.mem_of_getElem? (i := 46) rfl)) (hw _ (List.mem_of_getElem? (i := 45) rfl)) (by decide) (by decide)) (g := (mkF m 302 #[.val (.int p0_0), .val (.int p0_1), .val (.int p0_2), .val (.int p0_3), .val (.ref b1), .val (.ref b34), .val (.int zS), .val (.ref b88), .val (.int zF5), .val (.int zG4), .val (.int zG4)] [(.int zS), (.ref b88)])) rfl (by rw [hml]; rfl) (argsL := [(.ref b88), (.int zS)]) (rest := []) (lenOf pd_3 rfl) rfl (by show 2 * 0 + _ ≤ _; exact Nat.le_of_eq rfl) (hb hby at_302) (fun _ _ => ⟨rfl, eh134, (by decide : 4 + 0 ≤ _), (by decide : 22 + 0 ≤ _)⟩)
        dsimp only [Pt.U, Pt.locs, Pt.cells, Pt.slots] at X136 l136 y136 z136 st136 hQ136
        rw [l136, y136, z136] at X136
        obtain ⟨rfl, N136q, eh136⟩ := hQ136
        have N136 := Fr.app N134 N136q
        have k137 : ∀ t, Steps p.tables e below (T136.setTop (mkF m 315 #[.val (.int p0_0), .val (.int p0_1), .val (.int p0_2), .val (.int p0_3), .val (.ref b1), .val (.ref b34), .val (.int zS), .val (.ref b88), .val (.int zF5), .val (.int zG4), .val (.int zG4)] [(.int (1 : Int32))])) t → Steps p.tables e below (s₁.setTop (entryFrame m #[(.int p0_0), (.int p0_1), (.int p0_2), (.int p0_3)] maxLocals)) t := by
          intro t k
          refine k135 t ?_
          show Steps p.tables e below (T134.setTop (mkF m 292 #[.val (.int p0_0), .val (.int p0_1), .val (.int p0_2), .val (.int p0_3), .val (.ref b1), .val (.ref b34), .val (.int zS), .val (.ref b88), .val (.int zF5), .val (.int zF5), .val (.int zG3)] [(.int zG4)])) _
          refine XS.istore X134.here hx rfl (hb hby at_292) rfl (l' := #[.val (.int p0_0), .val (.int p0_1), .val (.int p0_2), .val (.int p0_3), .val (.ref b1), .val (.ref b34), .val (.int zS), .val (.ref b88), .val (.int zF5), .val (.int zF5), .val (.int zG4)]) rfl ?_
          show Steps p.tables e below (T134.setTop (mkF m 294 #[.val (.int p0_0), .val (.int p0_1), .val (.int p0_2), .val (.int p0_3), .val (.ref b1), .val (.ref b34), .val (.int zS), .val (.ref b88), .val (.int zF5), .val (.int zF5), .val (.int zG4)] [])) _
          refine XS.iload X134.here hx rfl (hb hby at_294) rfl ?_
          show Steps p.tables e below (T134.setTop (mkF m 296 #[.val (.int p0_0), .val (.int p0_1), .val (.int p0_2), .val (.int p0_3), .val (.ref b1), .val (.ref b34), .val (.int zS), .val (.ref b88), .val (.int zF5), .val (.int zF5), .val (.int zG4)] [(.int zG4)])) _
          refine XS.istore X134.here hx rfl (hb hby at_296) rfl (l' := #[.val (.int p0_0), .val (.int p0_1), .val (.int p0_2), .val (.int p0_3), .val (.ref b1), .val (.ref b34), .val (.int zS), .val (.ref b88), .val (.int zF5), .val (.int zG4), .val (.int zG4)]) rfl ?_
          show Steps p.tables e below (T134.setTop (mkF m 298 #[.val (.int p0_0), .val (.int p0_1), .val (.int p0_2), .val (.int p0_3), .val (.ref b1), .val (.ref b34), .val (.int zS), .val (.ref b88), .val (.int zF5), .val (.int zG4), .val (.int zG4)] [])) _
          refine XS.aload X134.here hx rfl (hb hby at_298) rfl rfl ?_
          show Steps p.tables e below (T134.setTop (mkF m 300 #[.val (.int p0_0), .val (.int p0_1), .val (.int p0_2), .val (.int p0_3), .val (.ref b1), .val (.ref b34), .val (.int zS), .val (.ref b88), .val (.int zF5), .val (.int zG4), .val (.int zG4)] [(.ref b88)])) _
          refine XS.iload X134.here hx rfl (hb hby at_300) rfl ?_
          show Steps p.tables e below (T134.setTop (mkF m 302 #[.val (.int p0_0), .val (.int p0_1), .val (.int p0_2), .val (.int p0_3), .val (.ref b1), .val (.ref b34), .val (.int zS), .val (.ref b88), .val (.int zF5), .val (.int zG4), .val (.int zG4)] [(.int zS), (.ref b88)])) _
          refine st136 _ ?_
          show Steps p.tables e below (T136.setTop (mkF m 305 #[.val (.int p0_0), .val (.int p0_1), .val (.int p0_2), .val (.int p0_3), .val (.ref b1), .val (.ref b34), .val (.int zS), .val (.ref b88), .val (.int zF5), .val (.int zG4), .val (.int zG4)] [(.int (own_ne zS c0 c1 c2 c3 c4 c5))])) _
          refine XS.iload X136.here hx rfl (hb hby at_305) rfl ?_
          show Steps p.tables e below (T136.setTop (mkF m 307 #[.val (.int p0_0), .val (.int p0_1), .val (.int p0_2), .val (.int p0_3), .val (.ref b1), .val (.ref b34), .val (.int zS), .val (.ref b88), .val (.int zF5), .val (.int zG4), .val (.int zG4)] [(.int zG4), (.int (own_ne zS c0 c1 c2 c3 c4 c5))])) _
          refine XS.icmpNo X136.here hx rfl (hb hby at_307) rfl (teq (by have hR := own_R zS c0 c1 c2 c3 c4 c5 hS0 hS6 hdg; rw [← hzF0, ← hzF1, ← hzF2, ← hzF3, ← hzF4, ← hzF5] at hR; unfold own_ne; rw [hR, if_pos hc226_117, if_pos (show own_get6 c0 c1 c2 c3 c4 c5 zF5 = (46 : Int32) from hzg118.symm.trans hc236_120), if_neg (show ¬ own_dg2 (own_get6 c0 c1 c2 c3 c4 c5 (zF5 + (1 : Int32))) = (0 : Int32) from fun q => hc249_124 ((congrArg own_dg hzg121).trans q))]; have hG := own_G zF5 c0 c1 c2 c3 c4 c5 hr_zF5.1 hr_zF5.2 hc226_117 (show ¬ own_dg2 (own_get6 c0 c1 c2 c3 c4 c5 (zF5 + (1 : Int32))) = (0 : Int32) from fun q => hc249_124 ((congrArg own_dg hzg121).trans q)); rw [← hzG0, ← hzG1, ← hzG2, ← hzG3, ← hzG4] at hG; exact hG)).2 ?_
          show Steps p.tables e below (T136.setTop (mkF m 310 #[.val (.int p0_0), .val (.int p0_1), .val (.int p0_2), .val (.int p0_3), .val (.ref b1), .val (.ref b34), .val (.int zS), .val (.ref b88), .val (.int zF5), .val (.int zG4), .val (.int zG4)] [])) _
          refine XS.iconst X136.here hx rfl (hb hby at_310) ?_
          show Steps p.tables e below (T136.setTop (mkF m 311 #[.val (.int p0_0), .val (.int p0_1), .val (.int p0_2), .val (.int p0_3), .val (.ref b1), .val (.ref b34), .val (.int zS), .val (.ref b88), .val (.int zF5), .val (.int zG4), .val (.int zG4)] [(.int (1 : Int32))])) _
          refine XS.goto X136.here hx rfl (pc0 := 311) (pc' := 315) rfl (hb hby at_311) (by decide) (by decide) ?_
          exact k
        obtain ⟨fs, hr, hrun, hended, hW, hsame⟩ := X136.leave (v := some (.int (1 : Int32))) (fun h => by rw [Bd.returns] at h; cases h)
        refine ⟨_, _, k137 _ ?_, hrun, hended, _, _, rfl, ?_, ⟨_, rfl⟩, hW, hsame.mono (by decide) (by decide)⟩
        · exact retN X136 hx (t := .boolean) Bd.returns (by simp) (hb hby at_315) hr
        · show Q0 Z p0_0 p0_1 p0_2 p0_3 cs fm h0 n0 _ T136.heap _
          rw [eh136]
          exact ⟨rfl, N136⟩
    · skip
      obtain ⟨_, _, ⟨T138, L138, k138, n138⟩, -, X138, ⟨Lc138, hQ138, l138, y138, z138⟩, st138⟩ := Jvm.LawKit.callS X114 hx (y := (⟨"com/example/oyster/oyster/engine/Literals", "numberEnd", "(Ljava/lang/String;I)I"⟩ : MethodName)) hown (mvT hZ (hw _ (List.mem_of_getElem? (i := 43) rfl))) (mvT hZ (hw _ (List.mem_of_getElem? (i := 44) rfl))) (mvT hZ (hw _ (List.mem_of_getElem? (i := 45) rfl))) (mvT hZ (hw _ (List.mem_of_getElem? (i := 46) rfl))) (by decide) (backOf (W := 0) (rm6 l Z a0 hw [] b88 zS t97 kb97 cs fm c0 c1 c2 c3 c4 c5 T97.heap n0 Zs97 G97_0 G97_2 G97_1 G97_3 F101 F102 hS0 (own_le6 hS6) hcs hfm hp) hZ (hw _ (List.mem_of_getElem? (i := 46) rfl)) (hw _ (List.mem_of_getElem? (i := 45) rfl)) (by decide) (by decide)) (g := (mkF m 302 #[.val (.int p0_0), .val (.int p0_1), .val (.int p0_2), .val (.int p0_3), .val (.ref b1), .val (.ref b34), .val (.int zS), .val (.ref b88), .val (.int zF5), .val (.int zF5), .unset] [(.int zS), (.ref b88)])) rfl (by rw [hml]; rfl) (argsL := [(.ref b88), (.int zS)]) (rest := []) (lenOf pd_3 rfl) rfl (by show 2 * 0 + _ ≤ _; exact Nat.le_of_eq rfl) (hb hby at_302) (fun _ _ => ⟨rfl, eh114, (by decide : 4 + 0 ≤ _), (by decide : 22 + 0 ≤ _)⟩)
      dsimp only [Pt.U, Pt.locs, Pt.cells, Pt.slots] at X138 l138 y138 z138 st138 hQ138
      rw [l138, y138, z138] at X138
      obtain ⟨rfl, N138q, eh138⟩ := hQ138
      have N138 := Fr.app N114 N138q
      have k139 : ∀ t, Steps p.tables e below (T138.setTop (mkF m 315 #[.val (.int p0_0), .val (.int p0_1), .val (.int p0_2), .val (.int p0_3), .val (.ref b1), .val (.ref b34), .val (.int zS), .val (.ref b88), .val (.int zF5), .val (.int zF5), .unset] [(.int (1 : Int32))])) t → Steps p.tables e below (s₁.setTop (entryFrame m #[(.int p0_0), (.int p0_1), (.int p0_2), (.int p0_3)] maxLocals)) t := by
        intro t k
        refine k119 t ?_
        show Steps p.tables e below (T114.setTop (mkF m 236 #[.val (.int p0_0), .val (.int p0_1), .val (.int p0_2), .val (.int p0_3), .val (.ref b1), .val (.ref b34), .val (.int zS), .val (.ref b88), .val (.int zF5), .val (.int zF5), .unset] [(.int (46 : Int32)), (.int zg118)])) _
        refine XS.icmpYes X114.here hx rfl (pc0 := 236) (pc' := 298) rfl (hb hby at_236) rfl (feq hc236_120).2 (by decide) (by decide) ?_
        show Steps p.tables e below (T114.setTop (mkF m 298 #[.val (.int p0_0), .val (.int p0_1), .val (.int p0_2), .val (.int p0_3), .val (.ref b1), .val (.ref b34), .val (.int zS), .val (.ref b88), .val (.int zF5), .val (.int zF5), .unset] [])) _
        refine XS.aload X114.here hx rfl (hb hby at_298) rfl rfl ?_
        show Steps p.tables e below (T114.setTop (mkF m 300 #[.val (.int p0_0), .val (.int p0_1), .val (.int p0_2), .val (.int p0_3), .val (.ref b1), .val (.ref b34), .val (.int zS), .val (.ref b88), .val (.int zF5), .val (.int zF5), .unset] [(.ref b88)])) _
        refine XS.iload X114.here hx rfl (hb hby at_300) rfl ?_
        show Steps p.tables e below (T114.setTop (mkF m 302 #[.val (.int p0_0), .val (.int p0_1), .val (.int p0_2), .val (.int p0_3), .val (.ref b1), .val (.ref b34), .val (.int zS), .val (.ref b88), .val (.int zF5), .val (.int zF5), .unset] [(.int zS), (.ref b88)])) _
        refine st138 _ ?_
        show Steps p.tables e below (T138.setTop (mkF m 305 #[.val (.int p0_0), .val (.int p0_1), .val (.int p0_2), .val (.int p0_3), .val (.ref b1), .val (.ref b34), .val (.int zS), .val (.ref b88), .val (.int zF5), .val (.int zF5), .unset] [(.int (own_ne zS c0 c1 c2 c3 c4 c5))])) _
        refine XS.iload X138.here hx rfl (hb hby at_305) rfl ?_
        show Steps p.tables e below (T138.setTop (mkF m 307 #[.val (.int p0_0), .val (.int p0_1), .val (.int p0_2), .val (.int p0_3), .val (.ref b1), .val (.ref b34), .val (.int zS), .val (.ref b88), .val (.int zF5), .val (.int zF5), .unset] [(.int zF5), (.int (own_ne zS c0 c1 c2 c3 c4 c5))])) _
        refine XS.icmpNo X138.here hx rfl (hb hby at_307) rfl (teq (by have hR := own_R zS c0 c1 c2 c3 c4 c5 hS0 hS6 hdg; rw [← hzF0, ← hzF1, ← hzF2, ← hzF3, ← hzF4, ← hzF5] at hR; unfold own_ne; rw [hR, if_pos hc226_117, if_neg (show ¬ own_get6 c0 c1 c2 c3 c4 c5 zF5 = (46 : Int32) from fun q => hc236_120 (hzg118.trans q))])).2 ?_
        show Steps p.tables e below (T138.setTop (mkF m 310 #[.val (.int p0_0), .val (.int p0_1), .val (.int p0_2), .val (.int p0_3), .val (.ref b1), .val (.ref b34), .val (.int zS), .val (.ref b88), .val (.int zF5), .val (.int zF5), .unset] [])) _
        refine XS.iconst X138.here hx rfl (hb hby at_310) ?_
        show Steps p.tables e below (T138.setTop (mkF m 311 #[.val (.int p0_0), .val (.int p0_1), .val (.int p0_2), .val (.int p0_3), .val (.ref b1), .val (.ref b34), .val (.int zS), .val (.ref b88), .val (.int zF5), .val (.int zF5), .unset] [(.int (1 : Int32))])) _
        refine XS.goto X138.here hx rfl (pc0 := 311) (pc' := 315) rfl (hb hby at_311) (by decide) (by decide) ?_
        exact k
      obtain ⟨fs, hr, hrun, hended, hW, hsame⟩ := X138.leave (v := some (.int (1 : Int32))) (fun h => by rw [Bd.returns] at h; cases h)
      refine ⟨_, _, k139 _ ?_, hrun, hended, _, _, rfl, ?_, ⟨_, rfl⟩, hW, hsame.mono (by decide) (by decide)⟩
      · exact retN X138 hx (t := .boolean) Bd.returns (by simp) (hb hby at_315) hr
      · show Q0 Z p0_0 p0_1 p0_2 p0_3 cs fm h0 n0 _ T138.heap _
        rw [eh138]
        exact ⟨rfl, N138⟩
  · skip
    obtain ⟨_, _, ⟨T140, L140, k140, n140⟩, -, X140, ⟨Lc140, hQ140, l140, y140, z140⟩, st140⟩ := Jvm.LawKit.callS X114 hx (y := (⟨"com/example/oyster/oyster/engine/Literals", "numberEnd", "(Ljava/lang/String;I)I"⟩ : MethodName)) hown (mvT hZ (hw _ (List.mem_of_getElem? (i := 43) rfl))) (mvT hZ (hw _ (List.mem_of_getElem? (i := 44) rfl))) (mvT hZ (hw _ (List.mem_of_getElem? (i := 45) rfl))) (mvT hZ (hw _ (List.mem_of_getElem? (i := 46) rfl))) (by decide) (backOf (W := 0) (rm6 l Z a0 hw [] b88 zS t97 kb97 cs fm c0 c1 c2 c3 c4 c5 T97.heap n0 Zs97 G97_0 G97_2 G97_1 G97_3 F101 F102 hS0 (own_le6 hS6) hcs hfm hp) hZ (hw _ (List.mem_of_getElem? (i := 46) rfl)) (hw _ (List.mem_of_getElem? (i := 45) rfl)) (by decide) (by decide)) (g := (mkF m 302 #[.val (.int p0_0), .val (.int p0_1), .val (.int p0_2), .val (.int p0_3), .val (.ref b1), .val (.ref b34), .val (.int zS), .val (.ref b88), .val (.int zF5), .val (.int zF5), .unset] [(.int zS), (.ref b88)])) rfl (by rw [hml]; rfl) (argsL := [(.ref b88), (.int zS)]) (rest := []) (lenOf pd_3 rfl) rfl (by show 2 * 0 + _ ≤ _; exact Nat.le_of_eq rfl) (hb hby at_302) (fun _ _ => ⟨rfl, eh114, (by decide : 4 + 0 ≤ _), (by decide : 22 + 0 ≤ _)⟩)
    dsimp only [Pt.U, Pt.locs, Pt.cells, Pt.slots] at X140 l140 y140 z140 st140 hQ140
    rw [l140, y140, z140] at X140
    obtain ⟨rfl, N140q, eh140⟩ := hQ140
    have N140 := Fr.app N114 N140q
    have k141 : ∀ t, Steps p.tables e below (T140.setTop (mkF m 315 #[.val (.int p0_0), .val (.int p0_1), .val (.int p0_2), .val (.int p0_3), .val (.ref b1), .val (.ref b34), .val (.int zS), .val (.ref b88), .val (.int zF5), .val (.int zF5), .unset] [(.int (1 : Int32))])) t → Steps p.tables e below (s₁.setTop (entryFrame m #[(.int p0_0), (.int p0_1), (.int p0_2), (.int p0_3)] maxLocals)) t := by
      intro t k
      refine k116 t ?_
      show Steps p.tables e below (T114.setTop (mkF m 226 #[.val (.int p0_0), .val (.int p0_1), .val (.int p0_2), .val (.int p0_3), .val (.ref b1), .val (.ref b34), .val (.int zS), .val (.ref b88), .val (.int zF5), .val (.int zF5), .unset] [(.int (6 : Int32)), (.int (zF5 + (1 : Int32)))])) _
      refine XS.icmpYes X114.here hx rfl (pc0 := 226) (pc' := 298) rfl (hb hby at_226) rfl (flt hc226_117).2.1 (by decide) (by decide) ?_
      show Steps p.tables e below (T114.setTop (mkF m 298 #[.val (.int p0_0), .val (.int p0_1), .val (.int p0_2), .val (.int p0_3), .val (.ref b1), .val (.ref b34), .val (.int zS), .val (.ref b88), .val (.int zF5), .val (.int zF5), .unset] [])) _
      refine XS.aload X114.here hx rfl (hb hby at_298) rfl rfl ?_
      show Steps p.tables e below (T114.setTop (mkF m 300 #[.val (.int p0_0), .val (.int p0_1), .val (.int p0_2), .val (.int p0_3), .val (.ref b1), .val (.ref b34), .val (.int zS), .val (.ref b88), .val (.int zF5), .val (.int zF5), .unset] [(.ref b88)])) _
      refine XS.iload X114.here hx rfl (hb hby at_300) rfl ?_
      show Steps p.tables e below (T114.setTop (mkF m 302 #[.val (.int p0_0), .val (.int p0_1), .val (.int p0_2), .val (.int p0_3), .val (.ref b1), .val (.ref b34), .val (.int zS), .val (.ref b88), .val (.int zF5), .val (.int zF5), .unset] [(.int zS), (.ref b88)])) _
      refine st140 _ ?_
      show Steps p.tables e below (T140.setTop (mkF m 305 #[.val (.int p0_0), .val (.int p0_1), .val (.int p0_2), .val (.int p0_3), .val (.ref b1), .val (.ref b34), .val (.int zS), .val (.ref b88), .val (.int zF5), .val (.int zF5), .unset] [(.int (own_ne zS c0 c1 c2 c3 c4 c5))])) _
      refine XS.iload X140.here hx rfl (hb hby at_305) rfl ?_
      show Steps p.tables e below (T140.setTop (mkF m 307 #[.val (.int p0_0), .val (.int p0_1), .val (.int p0_2), .val (.int p0_3), .val (.ref b1), .val (.ref b34), .val (.int zS), .val (.ref b88), .val (.int zF5), .val (.int zF5), .unset] [(.int zF5), (.int (own_ne zS c0 c1 c2 c3 c4 c5))])) _
      refine XS.icmpNo X140.here hx rfl (hb hby at_307) rfl (teq (by have hR := own_R zS c0 c1 c2 c3 c4 c5 hS0 hS6 hdg; rw [← hzF0, ← hzF1, ← hzF2, ← hzF3, ← hzF4, ← hzF5] at hR; unfold own_ne; rw [hR, if_neg hc226_117])).2 ?_
      show Steps p.tables e below (T140.setTop (mkF m 310 #[.val (.int p0_0), .val (.int p0_1), .val (.int p0_2), .val (.int p0_3), .val (.ref b1), .val (.ref b34), .val (.int zS), .val (.ref b88), .val (.int zF5), .val (.int zF5), .unset] [])) _
      refine XS.iconst X140.here hx rfl (hb hby at_310) ?_
      show Steps p.tables e below (T140.setTop (mkF m 311 #[.val (.int p0_0), .val (.int p0_1), .val (.int p0_2), .val (.int p0_3), .val (.ref b1), .val (.ref b34), .val (.int zS), .val (.ref b88), .val (.int zF5), .val (.int zF5), .unset] [(.int (1 : Int32))])) _
      refine XS.goto X140.here hx rfl (pc0 := 311) (pc' := 315) rfl (hb hby at_311) (by decide) (by decide) ?_
      exact k
    obtain ⟨fs, hr, hrun, hended, hW, hsame⟩ := X140.leave (v := some (.int (1 : Int32))) (fun h => by rw [Bd.returns] at h; cases h)
    refine ⟨_, _, k141 _ ?_, hrun, hended, _, _, rfl, ?_, ⟨_, rfl⟩, hW, hsame.mono (by decide) (by decide)⟩
    · exact retN X140 hx (t := .boolean) Bd.returns (by simp) (hb hby at_315) hr
    · show Q0 Z p0_0 p0_1 p0_2 p0_3 cs fm h0 n0 _ T140.heap _
      rw [eh140]
      exact ⟨rfl, N140⟩
set_option maxRecDepth 65536 in
set_option maxHeartbeats 40000000 in
theorem comes_1 {Post : Tables → Env → Array Value → State → Outcome → State → Prop} (hpost : ∀ tb e args s v u, (limb_1_1.after args s (.returned v) u = true ∧ limb_1_2.after args s (.returned v) u = true ∧ True) → FrameEnd s (.returned v) u (Jvm.fieldLocs frame_1_writes args s ++ Jvm.arrayLocs frame_1_arrays args s ++ Jvm.staticLocs frame_1_statics s) 16 128 → Post tb e args s (.returned v) u) :
    ArmFor flags0 classFile x code maxLocals ret World_1 tables_1 room_1 Calls_1 rest_1 Pre_1 Post := by
  intro l hfl _ _ p e ha hc hk s m args below hf hA hF happ hP
  obtain ⟨hcalls, hrest, hpre⟩ := hP
  obtain ⟨-, -, -, hnamed, -, -, -, hat⟩ := (Spec.applies_iff hf).mp happ
  obtain ⟨hg, hn⟩ := and_e (Cond.before_iff.mp (show (Jvm.Cond.and given_1 narrow_1).before args s = true from hpre))
  obtain ⟨gv1, gv2⟩ := and_e hg
  obtain ⟨gv3, gv4⟩ := and_e gv2
  obtain ⟨gv5, gv6⟩ := and_e gv4
  obtain ⟨gv7, gv8⟩ := and_e gv6
  obtain ⟨w0, w1, w2, w3, rfl⟩ : ∃ w0 w1 w2 w3 : Value, args = #[w0, w1, w2, w3] := by
    have hs : args.size = 4 := by simpa [Cond.value, given_1] using gv1
    obtain ⟨L⟩ := args
    match L, hs with
    | [w0, w1, w2, w3], _ => exact ⟨w0, w1, w2, w3, rfl⟩
  have hw := fun d (hd : d ∈ tables_1) => atoms_spec (ws := Jvm.Cond.code x code maxLocals ret :: tables_1) hat d (List.mem_cons_of_mem _ hd)
  have hfit : Fit s := fun {y c} hc i hi => by
    obtain ⟨ha, rfl⟩ := Array.getElem?_eq_some_iff.mp hc
    have q := List.all_eq_true.mp ((Array.all_eq_true_iff_forall_mem.mp hF) _ (Array.getElem_mem ha)) i (List.mem_range.mpr hi)
    simpa [Array.getElem?_eq_getElem hi] using q
  obtain ⟨hsets, hown0⟩ := atoms_of _ (rest_1_c_eq ▸ (show rest_1_c.before _ s = true from hrest))
  have hr0 := Cond.before_iff.mp hown0
  obtain ⟨i0, ei0⟩ := is_v gv3
  obtain rfl : w0 = (.int i0) := Option.some.inj ei0
  obtain ⟨i1, ei1⟩ := is_v gv5
  obtain rfl : w1 = (.int i1) := Option.some.inj ei1
  obtain ⟨i2, ei2⟩ := is_v gv7
  obtain rfl : w2 = (.int i2) := Option.some.inj ei2
  obtain ⟨i3, ei3⟩ := is_v gv8
  obtain rfl : w3 = (.int i3) := Option.some.inj ei3
  obtain ⟨cs, ev_cs⟩ := is_v (Cond.before_iff.mp (hsets _ (List.mem_of_getElem? (i := 1) rfl)))
  have Sc : Sta s s.heap "java/lang/String" "COMPACT_STRINGS" "Z" (.int cs) := Sta.start ev_cs (Or.inl (hsets _ (List.mem_of_getElem? (i := 0) rfl)))
  have hcs : ¬ (cs = (0 : Int32)) := gotF (Cond.eq_ints ev_cs (Term.int_eval _)) (not_v (Cond.before_iff.mp (hsets _ (List.mem_of_getElem? (i := 2) rfl))))
  obtain ⟨fm, ev_fm, hfm⟩ := isR_v (Cond.before_iff.mp (hsets _ (List.mem_of_getElem? (i := 8) rfl)))
  have Sf : Sta s s.heap "jdk/internal/util/Preconditions" "SIOOBE_FORMATTER" "Ljava/util/function/BiFunction;" fm := Sta.start ev_fm (Or.inl (hsets _ (List.mem_of_getElem? (i := 7) rfl)))
  obtain ⟨n, o, h1, h2, h3, _, L, rfl, ⟨rfl, N⟩, hq⟩ := rm0 l s _ hw tables_1 i0 i1 i2 i3 cs fm s.heap s.heap.size (Nat.le_refl _) Sc Sf hcs hfm p e ha hc hk s m _ below hf ((Spec.applies_iff_loose hf).mp happ).1 ⟨rfl, State.Warmed39.refl s, rfl⟩ trivial
  refine ⟨n, _, h1, h2, h3, hpost _ _ _ _ _ _ ⟨Cond.after_iff.mpr rfl, Cond.after_iff.mpr (eq_i res_at (Term.int_eval (1)) rfl), trivial⟩ ⟨hq.1, hq.2.1, (hq.2.2.sift fun y hy => Or.inr (N y hy)).mono (by decide) (by decide)⟩⟩
theorem main_1_1 : Claimed_1_1 := comes_1 fun _ _ _ _ _ _ h hF => ⟨h.1, hF⟩
theorem main_1_2 : Claimed_1_2 := comes_1 fun _ _ _ _ _ _ h hF => ⟨h.2.1, hF⟩
end Jvm.Pilot.@@N@@
namespace Jvm.Pilot.@@N@@
open Jvm Jvm.ClassFile Sem Op Lib Jvm.Free Jvm.Stand Jvm.Pilot.@@N@@.Jvm.D
/-! MADE BY PROGRAM (witnessworld.py) out of the Statement's table words and the real class files: 20 classes; the members and pool entries that the words name. The judged class is class 1, her method 1. -/
namespace start1
open Jvm.ClassFile
def u (s : String) : CpInfo := .utf8 (stringToUtf16 s)
/-- a pool by its gaps: so many unusable entries, then the entry; so many at the end -/
def gap : Nat → List CpInfo → List CpInfo
  | 0, r => r
  | n + 1, r => .unusable :: gap n r
def poolList (es : List (Nat × CpInfo)) (last : Nat) : List CpInfo := es.foldr (fun e r => gap e.1 (e.2 :: r)) (gap last [])
def pool (es : List (Nat × CpInfo)) (last : Nat) : Array CpInfo := ⟨poolList es last⟩
def fileOf (pool : Array CpInfo) (this : Nat) (attrs : Array Attribute := #[]) (ms : Array MethodInfo := #[]) (fl : Nat := 33) (sup : Nat := 0) (ifs : Array Nat := #[]) (fds : Array FieldInfo := #[]) : ClassFile where
  minorVersion := 0
  majorVersion := 65
  constantPool := pool
  accessFlags := fl
  thisClass := this
  superClass := sup
  interfaces := ifs
  fields := fds
  methods := ms
  attributes := attrs
def plain (name : String) (sup : Option ClassId) : Class where
  name := name
  kind := .ordinary
  loader := none
  accessFlags := 33
  super := sup
  interfaces := #[]
  cf := none
  fields := #[]
  methods := #[]
  instanceTypes := #[]
  staticTypes := #[]
  resolved := #[]
  callSites := []
  init := .initialized
  statics := none
  mirror := none

def pool0 : Array CpInfo := pool [(5, u "<init>"), (0, u "()V"), (1, .class_ 10), (1, u "java/lang/Object")] 113

def k0c0 : Code := { maxStack := 0, maxLocals := 1, code := object_method_1_code, exceptionTable := #[], attributes := #[] }
def k0m0 : Method := { name := "<init>", desc := "()V", sig := { parameters := [], returnType := none }, accessFlags := 1, code := some k0c0 }
/-- java/lang/Object -/
def k0 : Class := { plain "java/lang/Object" none with
  accessFlags := 33
  interfaces := #[]
  cf := some (fileOf pool0 8 #[] #[{ accessFlags := 1, nameIndex := 5, descriptorIndex := 6, attributes := #[] }] 33 0 #[] #[])
  fields := #[]
  methods := #[k0m0]
  instanceTypes := #[]
  staticTypes := #[]
  resolved := Array.replicate 124 none
  statics := none }

def pool1 : Array CpInfo := pool [(2, .class_ 4), (1, u "java/lang/Object"), (0, u "<init>"), (0, u "()V"), (0, .integer 65535), (0, .methodref 9 10), (0, .class_ 11), (0, .nameAndType 12 13), (0, u "com/example/oyster/oyster/engine/LiteralsNumberEndPinLaw"), (0, u "charOf"), (0, u "(I)C"), (0, .integer 2147483647), (0, .class_ 16), (0, u "java/lang/String"), (0, .methodref 15 18), (0, .nameAndType 5 19), (0, u "([C)V"), (0, .methodref 9 21), (0, .nameAndType 22 23), (0, u "step"), (0, u "([CI)I"), (0, .methodref 9 25), (0, .nameAndType 26 27), (0, u "dig"), (0, u "(C)Z"), (0, .methodref 29 30), (0, .class_ 31), (0, .nameAndType 32 33), (0, u "com/example/oyster/oyster/engine/Literals"), (0, u "numberEnd"), (0, u "(Ljava/lang/String;I)I"), (2, u "law"), (0, u "(IIII)Z")] 7

def k1m0 : Method := { name := "<init>", desc := "()V", sig := { parameters := [], returnType := none }, accessFlags := 2, code := none }
def k1c1 : Code := { maxStack := 5, maxLocals := 11, code := code, exceptionTable := #[], attributes := #[] }
def k1m1 : Method := { name := "law", desc := "(IIII)Z", sig := { parameters := [.int, .int, .int, .int], returnType := some .boolean }, accessFlags := 9, code := some k1c1 }
def k1c2 : Code := { maxStack := 2, maxLocals := 1, code := method_3_code, exceptionTable := #[], attributes := #[] }
def k1m2 : Method := { name := "dig", desc := "(C)Z", sig := { parameters := [.char], returnType := some .boolean }, accessFlags := 10, code := some k1c2 }
def k1c3 : Code := { maxStack := 2, maxLocals := 2, code := method_4_code, exceptionTable := #[], attributes := #[] }
def k1m3 : Method := { name := "step", desc := "([CI)I", sig := { parameters := [(.array .char), .int], returnType := some .int }, accessFlags := 10, code := some k1c3 }
def k1c4 : Code := { maxStack := 3, maxLocals := 3, code := method_5_code, exceptionTable := #[], attributes := #[] }
def k1m4 : Method := { name := "charOf", desc := "(I)C", sig := { parameters := [.int], returnType := some .char }, accessFlags := 10, code := some k1c4 }
/-- com/example/oyster/oyster/engine/LiteralsNumberEndPinLaw -/
def k1 : Class := { plain "com/example/oyster/oyster/engine/LiteralsNumberEndPinLaw" (some 0) with
  accessFlags := 49
  interfaces := #[]
  cf := some (fileOf pool1 9 #[] #[{ accessFlags := 2, nameIndex := 5, descriptorIndex := 6, attributes := #[] }, { accessFlags := 9, nameIndex := 36, descriptorIndex := 37, attributes := #[] }, { accessFlags := 10, nameIndex := 26, descriptorIndex := 27, attributes := #[] }, { accessFlags := 10, nameIndex := 22, descriptorIndex := 23, attributes := #[] }, { accessFlags := 10, nameIndex := 12, descriptorIndex := 13, attributes := #[] }] 49 2 #[] #[])
  fields := #[]
  methods := #[k1m0, k1m1, k1m2, k1m3, k1m4]
  instanceTypes := #[]
  staticTypes := #[]
  resolved := Array.replicate 45 none
  statics := none }

def pool2 : Array CpInfo := pool [(1, .class_ 2), (0, u "java/io/Serializable"), (0, .class_ 4), (0, u "java/lang/Object")] 2

/-- java/io/Serializable -/
def k2 : Class := { plain "java/io/Serializable" (some 0) with
  accessFlags := 1537
  interfaces := #[]
  cf := some (fileOf pool2 1 #[] #[] 1537 3 #[] #[])
  fields := #[]
  methods := #[]
  instanceTypes := #[]
  staticTypes := #[]
  resolved := Array.replicate 7 none
  statics := none }

def pool3 : Array CpInfo := pool [(1, .class_ 2), (0, u "java/lang/Comparable"), (0, .class_ 4), (0, u "java/lang/Object")] 7

/-- java/lang/Comparable -/
def k3 : Class := { plain "java/lang/Comparable" (some 0) with
  accessFlags := 1537
  interfaces := #[]
  cf := some (fileOf pool3 1 #[] #[] 1537 3 #[] #[])
  fields := #[]
  methods := #[]
  instanceTypes := #[]
  staticTypes := #[]
  resolved := Array.replicate 12 none
  statics := none }

def pool4 : Array CpInfo := pool [(2, .class_ 4), (1, u "java/lang/CharSequence"), (42, .class_ 48), (0, u "java/lang/CharSequence$1CodePointIterator"), (10, .class_ 60), (0, u "java/lang/CharSequence$1CharIterator"), (5, .class_ 67), (0, u "java/lang/Object")] 63

/-- java/lang/CharSequence -/
def k4 : Class := { plain "java/lang/CharSequence" (some 0) with
  accessFlags := 1537
  interfaces := #[]
  cf := some (fileOf pool4 2 #[.nestMembers #[47, 59]] #[] 1537 66 #[] #[])
  fields := #[]
  methods := #[]
  instanceTypes := #[]
  staticTypes := #[]
  resolved := Array.replicate 131 none
  statics := none }

def pool5 : Array CpInfo := pool [(1, .class_ 2), (0, u "java/lang/constant/Constable"), (0, .class_ 4), (0, u "java/lang/Object")] 6

/-- java/lang/constant/Constable -/
def k5 : Class := { plain "java/lang/constant/Constable" (some 0) with
  accessFlags := 1537
  interfaces := #[]
  cf := some (fileOf pool5 1 #[] #[] 1537 3 #[] #[])
  fields := #[]
  methods := #[]
  instanceTypes := #[]
  staticTypes := #[]
  resolved := Array.replicate 11 none
  statics := none }

def pool6 : Array CpInfo := pool [(1, .class_ 2), (0, u "java/lang/constant/ConstantDesc"), (0, .class_ 4), (0, u "java/lang/Object")] 32

/-- java/lang/constant/ConstantDesc -/
def k6 : Class := { plain "java/lang/constant/ConstantDesc" (some 0) with
  accessFlags := 1537
  interfaces := #[]
  cf := some (fileOf pool6 1 #[] #[] 1537 3 #[] #[])
  fields := #[]
  methods := #[]
  instanceTypes := #[]
  staticTypes := #[]
  resolved := Array.replicate 37 none
  statics := none }

def pool7 : Array CpInfo := pool [(1, .methodref 2 3), (0, .class_ 4), (0, .nameAndType 5 6), (0, u "java/lang/Object"), (0, u "<init>"), (0, u "()V"), (2, .fieldref 10 11), (0, .class_ 12), (0, .nameAndType 13 14), (0, u "java/lang/String"), (0, u "value"), (0, u "[B"), (0, .fieldref 10 16), (0, .nameAndType 17 18), (0, u "coder"), (0, u "B"), (2, u "hash"), (0, u "I"), (2, u "hashIsZero"), (0, u "Z"), (0, .methodref 10 28), (0, .nameAndType 5 29), (0, u "([CIILjava/lang/Void;)V"), (8, .fieldref 10 39), (0, .nameAndType 40 26), (0, u "COMPACT_STRINGS"), (1, .class_ 44), (1, u "java/lang/StringUTF16"), (0, u "compress"), (1, .methodref 42 48), (0, .nameAndType 49 50), (0, u "coderFromArrayLen"), (0, u "([BI)B"), (56, .class_ 109), (1, u "java/lang/StringLatin1"), (32, u "()Z"), (34, .methodref 42 178), (0, .nameAndType 45 179), (0, u "([CII)[B"), (154, u "()I"), (0, .methodref 10 336), (0, .nameAndType 17 337), (0, u "()B"), (25, u "([BI)C"), (27, u "(II)V"), (35, u "(I)C"), (64, .methodref 10 493), (0, .nameAndType 494 142), (0, u "isLatin1"), (0, .methodref 107 496), (0, .nameAndType 497 363), (0, u "charAt"), (3, u "checkIndex"), (5, u "length"), (67, .class_ 576), (0, u "java/lang/CharSequence"), (22, u "CASE_INSENSITIVE_ORDER"), (0, u "Ljava/util/Comparator;"), (409, u "([C)V"), (42, .fieldref 1054 1055), (0, .class_ 1056), (0, .nameAndType 1057 1058), (0, u "jdk/internal/util/Preconditions"), (0, u "SIOOBE_FORMATTER"), (0, u "Ljava/util/function/BiFunction;"), (0, .methodref 1054 1060), (0, .nameAndType 501 1061), (0, u "(IILjava/util/function/BiFunction;)I"), (39, u "serialPersistentFields"), (0, u "[Ljava/io/ObjectStreamField;"), (0, .class_ 1104), (0, u "java/lang/String$CaseInsensitiveComparator"), (1, .class_ 1107), (0, u "java/io/Serializable"), (0, .class_ 1109), (0, u "java/lang/Comparable"), (0, .class_ 1111), (0, u "java/lang/constant/Constable"), (0, .class_ 1113), (0, u "java/lang/constant/ConstantDesc"), (2, u "serialVersionUID"), (0, u "J"), (3, u "REPL"), (0, u "C"), (2, u "LATIN1"), (1, u "UTF16")] 323

def k7m0 : Method := { name := "<init>", desc := "()V", sig := { parameters := [], returnType := none }, accessFlags := 1, code := none }
def k7c1 : Code := { maxStack := 5, maxLocals := 2, code := jdk_42_method_3_code, exceptionTable := #[], attributes := #[] }
def k7m1 : Method := { name := "<init>", desc := "([C)V", sig := { parameters := [(.array .char)], returnType := none }, accessFlags := 1, code := some k7c1 }
def k7c2 : Code := { maxStack := 2, maxLocals := 1, code := jdk_42_method_54_code, exceptionTable := #[], attributes := #[] }
def k7m2 : Method := { name := "length", desc := "()I", sig := { parameters := [], returnType := some .int }, accessFlags := 1, code := some k7c2 }
def k7c3 : Code := { maxStack := 2, maxLocals := 2, code := jdk_42_method_56_code, exceptionTable := #[], attributes := #[] }
def k7m3 : Method := { name := "charAt", desc := "(I)C", sig := { parameters := [.int], returnType := some .char }, accessFlags := 1, code := some k7c3 }
def k7c4 : Code := { maxStack := 4, maxLocals := 6, code := jdk_42_method_149_code, exceptionTable := #[], attributes := #[] }
def k7m4 : Method := { name := "<init>", desc := "([CIILjava/lang/Void;)V", sig := { parameters := [(.array .char), .int, .int, (.object "java/lang/Void")], returnType := none }, accessFlags := 2, code := some k7c4 }
def k7c5 : Code := { maxStack := 1, maxLocals := 1, code := jdk_42_method_152_code, exceptionTable := #[], attributes := #[] }
def k7m5 : Method := { name := "coder", desc := "()B", sig := { parameters := [], returnType := some .byte }, accessFlags := 0, code := some k7c5 }
def k7c6 : Code := { maxStack := 1, maxLocals := 1, code := jdk_42_method_154_code, exceptionTable := #[], attributes := #[] }
def k7m6 : Method := { name := "isLatin1", desc := "()Z", sig := { parameters := [], returnType := some .boolean }, accessFlags := 0, code := some k7c6 }
def k7c7 : Code := { maxStack := 3, maxLocals := 2, code := jdk_42_method_155_code, exceptionTable := #[], attributes := #[] }
def k7m7 : Method := { name := "checkIndex", desc := "(II)V", sig := { parameters := [.int, .int], returnType := none }, accessFlags := 8, code := some k7c7 }
/-- java/lang/String -/
def k7 : Class := { plain "java/lang/String" (some 0) with
  accessFlags := 49
  interfaces := #[2, 3, 4, 5, 6]
  cf := some (fileOf pool7 10 #[.nestMembers #[1103]] #[{ accessFlags := 1, nameIndex := 5, descriptorIndex := 6, attributes := #[] }, { accessFlags := 1, nameIndex := 5, descriptorIndex := 1010, attributes := #[] }, { accessFlags := 1, nameIndex := 507, descriptorIndex := 334, attributes := #[] }, { accessFlags := 1, nameIndex := 497, descriptorIndex := 427, attributes := #[] }, { accessFlags := 2, nameIndex := 5, descriptorIndex := 29, attributes := #[] }, { accessFlags := 0, nameIndex := 17, descriptorIndex := 337, attributes := #[] }, { accessFlags := 0, nameIndex := 494, descriptorIndex := 142, attributes := #[] }, { accessFlags := 8, nameIndex := 501, descriptorIndex := 391, attributes := #[] }] 49 2 #[1106, 1108, 575, 1110, 1112] #[{ accessFlags := 18, nameIndex := 13, descriptorIndex := 14, attributes := #[] }, { accessFlags := 18, nameIndex := 17, descriptorIndex := 18, attributes := #[] }, { accessFlags := 2, nameIndex := 21, descriptorIndex := 22, attributes := #[] }, { accessFlags := 2, nameIndex := 25, descriptorIndex := 26, attributes := #[] }, { accessFlags := 26, nameIndex := 1116, descriptorIndex := 1117, attributes := #[] }, { accessFlags := 24, nameIndex := 40, descriptorIndex := 26, attributes := #[] }, { accessFlags := 26, nameIndex := 1101, descriptorIndex := 1102, attributes := #[] }, { accessFlags := 26, nameIndex := 1121, descriptorIndex := 1122, attributes := #[] }, { accessFlags := 25, nameIndex := 599, descriptorIndex := 600, attributes := #[] }, { accessFlags := 24, nameIndex := 1125, descriptorIndex := 18, attributes := #[] }, { accessFlags := 24, nameIndex := 1127, descriptorIndex := 18, attributes := #[] }])
  fields := #[{ name := "value", type := (.array .byte), accessFlags := 18, slot := 0, constantValue := 0 }, { name := "coder", type := .byte, accessFlags := 18, slot := 1, constantValue := 0 }, { name := "hash", type := .int, accessFlags := 2, slot := 2, constantValue := 0 }, { name := "hashIsZero", type := .boolean, accessFlags := 2, slot := 3, constantValue := 0 }, { name := "serialVersionUID", type := .long, accessFlags := 26, slot := 0, constantValue := 0 }, { name := "COMPACT_STRINGS", type := .boolean, accessFlags := 24, slot := 1, constantValue := 0 }, { name := "serialPersistentFields", type := (.array (.object "java/io/ObjectStreamField")), accessFlags := 26, slot := 2, constantValue := 0 }, { name := "REPL", type := .char, accessFlags := 26, slot := 3, constantValue := 0 }, { name := "CASE_INSENSITIVE_ORDER", type := (.object "java/util/Comparator"), accessFlags := 25, slot := 4, constantValue := 0 }, { name := "LATIN1", type := .byte, accessFlags := 24, slot := 5, constantValue := 0 }, { name := "UTF16", type := .byte, accessFlags := 24, slot := 6, constantValue := 0 }]
  methods := #[k7m0, k7m1, k7m2, k7m3, k7m4, k7m5, k7m6, k7m7]
  instanceTypes := #[(.array .byte), .byte, .int, .boolean]
  staticTypes := #[.long, .boolean, (.array (.object "java/io/ObjectStreamField")), .char, (.object "java/util/Comparator"), .byte, .byte]
  resolved := Array.replicate 1451 none
  statics := some 0 }

def pool8 : Array CpInfo := pool [(6, .class_ 8), (1, u "java/lang/Object"), (0, u "<init>"), (0, u "()V"), (1, .class_ 14), (1, u "java/lang/StringUTF16"), (31, u "$assertionsDisabled"), (0, u "Z"), (13, u "HI_BYTE_SHIFT"), (0, u "I"), (2, u "LO_BYTE_SHIFT"), (49, .methodref 12 116), (0, .nameAndType 117 118), (0, u "compress"), (0, u "([CI[BII)I"), (3, u "([CII)[B"), (138, u "coderFromArrayLen"), (0, u "([BI)B"), (106, .class_ 371), (1, u "java/lang/StringUTF16$LinesSpliterator"), (58, u "MAX_LENGTH"), (196, .class_ 628), (0, u "java/lang/StringUTF16$CodePointsSpliterator"), (0, .class_ 630), (0, u "java/lang/StringUTF16$CharsSpliterator")] 4

def k8m0 : Method := { name := "<init>", desc := "()V", sig := { parameters := [], returnType := none }, accessFlags := 0, code := none }
def k8c1 : Code := { maxStack := 2, maxLocals := 2, code := jdk_52_method_15_code, exceptionTable := #[], attributes := #[] }
def k8m1 : Method := { name := "coderFromArrayLen", desc := "([BI)B", sig := { parameters := [(.array .byte), .int], returnType := some .byte }, accessFlags := 8, code := some k8c1 }
def k8c2 : Code := { maxStack := 5, maxLocals := 6, code := jdk_52_method_16_code, exceptionTable := #[], attributes := #[] }
def k8m2 : Method := { name := "compress", desc := "([CII)[B", sig := { parameters := [(.array .char), .int, .int], returnType := some (.array .byte) }, accessFlags := 9, code := some k8c2 }
def k8c3 : Code := { maxStack := 3, maxLocals := 7, code := jdk_52_method_21_code, exceptionTable := #[], attributes := #[] }
def k8m3 : Method := { name := "compress", desc := "([CI[BII)I", sig := { parameters := [(.array .char), .int, (.array .byte), .int, .int], returnType := some .int }, accessFlags := 9, code := some k8c3 }
/-- java/lang/StringUTF16 -/
def k8 : Class := { plain "java/lang/StringUTF16" (some 0) with
  accessFlags := 48
  interfaces := #[]
  cf := some (fileOf pool8 12 #[.nestMembers #[627, 629, 369]] #[{ accessFlags := 0, nameIndex := 9, descriptorIndex := 10, attributes := #[] }, { accessFlags := 8, nameIndex := 261, descriptorIndex := 262, attributes := #[] }, { accessFlags := 9, nameIndex := 117, descriptorIndex := 122, attributes := #[] }, { accessFlags := 9, nameIndex := 117, descriptorIndex := 118, attributes := #[] }] 48 6 #[] #[{ accessFlags := 26, nameIndex := 61, descriptorIndex := 62, attributes := #[] }, { accessFlags := 26, nameIndex := 65, descriptorIndex := 62, attributes := #[] }, { accessFlags := 24, nameIndex := 430, descriptorIndex := 62, attributes := #[] }, { accessFlags := 4120, nameIndex := 46, descriptorIndex := 47, attributes := #[] }])
  fields := #[{ name := "HI_BYTE_SHIFT", type := .int, accessFlags := 26, slot := 0, constantValue := 0 }, { name := "LO_BYTE_SHIFT", type := .int, accessFlags := 26, slot := 1, constantValue := 0 }, { name := "MAX_LENGTH", type := .int, accessFlags := 24, slot := 2, constantValue := 0 }, { name := "$assertionsDisabled", type := .boolean, accessFlags := 4120, slot := 3, constantValue := 0 }]
  methods := #[k8m0, k8m1, k8m2, k8m3]
  instanceTypes := #[]
  staticTypes := #[.int, .int, .int, .boolean]
  resolved := Array.replicate 635 none
  statics := none }

def pool9 : Array CpInfo := pool [(2, .class_ 4), (1, u "java/lang/Object"), (0, u "<init>"), (0, u "()V"), (0, .methodref 8 9), (0, .class_ 10), (0, .nameAndType 11 12), (0, u "com/example/oyster/oyster/engine/Literals"), (0, u "digitsEnd"), (0, u "(Ljava/lang/String;I)I"), (0, .methodref 14 15), (0, .class_ 16), (0, .nameAndType 17 18), (0, u "java/lang/String"), (0, u "length"), (0, u "()I"), (0, .methodref 14 20), (0, .nameAndType 21 22), (0, u "charAt"), (0, u "(I)C"), (0, .methodref 8 24), (0, .nameAndType 25 26), (0, u "isDigit"), (0, u "(C)Z"), (0, .class_ 28), (0, u "com/example/oyster/oyster/engine/Literals$MalformedLiteralException"), (17, u "numberEnd")] 23

def k9m0 : Method := { name := "<init>", desc := "()V", sig := { parameters := [], returnType := none }, accessFlags := 2, code := none }
def k9c1 : Code := { maxStack := 3, maxLocals := 3, code := prog_13_method_2_code, exceptionTable := #[], attributes := #[] }
def k9m1 : Method := { name := "numberEnd", desc := "(Ljava/lang/String;I)I", sig := { parameters := [(.object "java/lang/String"), .int], returnType := some .int }, accessFlags := 8, code := some k9c1 }
def k9c2 : Code := { maxStack := 2, maxLocals := 1, code := prog_13_method_4_code, exceptionTable := #[], attributes := #[] }
def k9m2 : Method := { name := "isDigit", desc := "(C)Z", sig := { parameters := [.char], returnType := some .boolean }, accessFlags := 8, code := some k9c2 }
def k9c3 : Code := { maxStack := 2, maxLocals := 2, code := prog_13_method_5_code, exceptionTable := #[], attributes := #[] }
def k9m3 : Method := { name := "digitsEnd", desc := "(Ljava/lang/String;I)I", sig := { parameters := [(.object "java/lang/String"), .int], returnType := some .int }, accessFlags := 10, code := some k9c3 }
/-- com/example/oyster/oyster/engine/Literals -/
def k9 : Class := { plain "com/example/oyster/oyster/engine/Literals" (some 0) with
  accessFlags := 48
  interfaces := #[]
  cf := some (fileOf pool9 8 #[.nestMembers #[27]] #[{ accessFlags := 2, nameIndex := 5, descriptorIndex := 6, attributes := #[] }, { accessFlags := 8, nameIndex := 46, descriptorIndex := 12, attributes := #[] }, { accessFlags := 8, nameIndex := 25, descriptorIndex := 26, attributes := #[] }, { accessFlags := 10, nameIndex := 11, descriptorIndex := 12, attributes := #[] }] 48 2 #[] #[])
  fields := #[]
  methods := #[k9m0, k9m1, k9m2, k9m3]
  instanceTypes := #[]
  staticTypes := #[]
  resolved := Array.replicate 70 none
  statics := none }

def pool10 : Array CpInfo := pool [(1, .class_ 2), (0, u "java/lang/String"), (1, .class_ 6), (1, u "java/lang/Object"), (0, u "<init>"), (0, u "()V"), (0, .methodref 1 10), (0, .nameAndType 11 12), (0, u "checkIndex"), (0, u "(II)V"), (1, .class_ 16), (1, u "java/lang/StringLatin1"), (36, u "([BI)C"), (67, u "$assertionsDisabled"), (0, u "Z"), (98, .class_ 223), (1, u "java/lang/StringLatin1$LinesSpliterator"), (28, u "charAt"), (137, .class_ 391), (0, u "java/lang/StringLatin1$CharsSpliterator")] 3

def k10m0 : Method := { name := "<init>", desc := "()V", sig := { parameters := [], returnType := none }, accessFlags := 0, code := none }
def k10c1 : Code := { maxStack := 2, maxLocals := 2, code := jdk_43_method_2_code, exceptionTable := #[], attributes := #[] }
def k10m1 : Method := { name := "charAt", desc := "([BI)C", sig := { parameters := [(.array .byte), .int], returnType := some .char }, accessFlags := 9, code := some k10c1 }
/-- java/lang/StringLatin1 -/
def k10 : Class := { plain "java/lang/StringLatin1" (some 0) with
  accessFlags := 48
  interfaces := #[]
  cf := some (fileOf pool10 14 #[.nestMembers #[390, 221]] #[{ accessFlags := 0, nameIndex := 7, descriptorIndex := 8, attributes := #[] }, { accessFlags := 9, nameIndex := 252, descriptorIndex := 53, attributes := #[] }] 48 4 #[] #[{ accessFlags := 4120, nameIndex := 121, descriptorIndex := 122, attributes := #[] }])
  fields := #[{ name := "$assertionsDisabled", type := .boolean, accessFlags := 4120, slot := 0, constantValue := 0 }]
  methods := #[k10m0, k10m1]
  instanceTypes := #[]
  staticTypes := #[.boolean]
  resolved := Array.replicate 395 none
  statics := none }

def pool11 : Array CpInfo := pool [(2, .class_ 4), (1, u "java/lang/Object"), (0, u "<init>"), (0, u "()V"), (17, .class_ 26), (1, u "jdk/internal/util/Preconditions"), (6, u "checkIndex"), (21, .class_ 56), (0, u "jdk/internal/util/Preconditions$4"), (57, .class_ 115), (0, u "jdk/internal/util/Preconditions$1"), (7, u "SIOOBE_FORMATTER"), (0, u "Ljava/util/function/BiFunction;"), (0, .class_ 126), (0, u "jdk/internal/util/Preconditions$2"), (3, u "AIOOBE_FORMATTER"), (0, .class_ 132), (0, u "jdk/internal/util/Preconditions$3"), (3, u "IOOBE_FORMATTER"), (41, u "(IILjava/util/function/BiFunction;)I")] 15

def k11m0 : Method := { name := "<init>", desc := "()V", sig := { parameters := [], returnType := none }, accessFlags := 1, code := none }
def k11c1 : Code := { maxStack := 3, maxLocals := 3, code := jdk_41_method_11_code, exceptionTable := #[], attributes := #[] }
def k11m1 : Method := { name := "checkIndex", desc := "(IILjava/util/function/BiFunction;)I", sig := { parameters := [.int, .int, (.object "java/util/function/BiFunction")], returnType := some .int }, accessFlags := 9, code := some k11c1 }
/-- jdk/internal/util/Preconditions -/
def k11 : Class := { plain "jdk/internal/util/Preconditions" (some 0) with
  accessFlags := 33
  interfaces := #[]
  cf := some (fileOf pool11 24 #[.nestMembers #[55, 131, 125, 114]] #[{ accessFlags := 1, nameIndex := 5, descriptorIndex := 6, attributes := #[] }, { accessFlags := 9, nameIndex := 33, descriptorIndex := 178, attributes := #[] }] 33 2 #[] #[{ accessFlags := 25, nameIndex := 123, descriptorIndex := 124, attributes := #[] }, { accessFlags := 25, nameIndex := 130, descriptorIndex := 124, attributes := #[] }, { accessFlags := 25, nameIndex := 136, descriptorIndex := 124, attributes := #[] }])
  fields := #[{ name := "SIOOBE_FORMATTER", type := (.object "java/util/function/BiFunction"), accessFlags := 25, slot := 0, constantValue := 0 }, { name := "AIOOBE_FORMATTER", type := (.object "java/util/function/BiFunction"), accessFlags := 25, slot := 1, constantValue := 0 }, { name := "IOOBE_FORMATTER", type := (.object "java/util/function/BiFunction"), accessFlags := 25, slot := 2, constantValue := 0 }]
  methods := #[k11m0, k11m1]
  instanceTypes := #[]
  staticTypes := #[(.object "java/util/function/BiFunction"), (.object "java/util/function/BiFunction"), (.object "java/util/function/BiFunction")]
  resolved := Array.replicate 194 none
  statics := some 1 }

def pool12 : Array CpInfo := pool [(9, u "<init>"), (6, .class_ 18), (1, u "java/lang/Object"), (0, u "()V"), (1, .class_ 23), (1, u "jdk/internal/util/ArraysSupport"), (0, u "LOG2_ARRAY_LONG_INDEX_SCALE"), (0, u "I"), (2, u "U"), (0, u "Ljdk/internal/misc/Unsafe;"), (8, u "BIG_ENDIAN"), (0, u "Z"), (8, u "LOG2_BYTE_BIT_SIZE"), (4, u "LOG2_ARRAY_INT_INDEX_SCALE"), (54, u "JLA"), (0, u "Ljdk/internal/access/JavaLangAccess;"), (11, u "LOG2_ARRAY_BOOLEAN_INDEX_SCALE"), (9, u "LOG2_ARRAY_BYTE_INDEX_SCALE"), (5, u "LOG2_ARRAY_CHAR_INDEX_SCALE"), (5, u "LOG2_ARRAY_SHORT_INDEX_SCALE"), (18, u "LOG2_ARRAY_FLOAT_INDEX_SCALE"), (24, u "LOG2_ARRAY_DOUBLE_INDEX_SCALE"), (89, u "T_BOOLEAN"), (2, u "T_CHAR"), (1, u "T_FLOAT"), (1, u "T_DOUBLE"), (1, u "T_BYTE"), (1, u "T_SHORT"), (1, u "T_INT"), (1, u "T_LONG"), (1, u "SOFT_MAX_ARRAY_LENGTH")] 83

def k12m0 : Method := { name := "<init>", desc := "()V", sig := { parameters := [], returnType := none }, accessFlags := 2, code := none }
/-- jdk/internal/util/ArraysSupport -/
def k12 : Class := { plain "jdk/internal/util/ArraysSupport" (some 0) with
  accessFlags := 33
  interfaces := #[]
  cf := some (fileOf pool12 21 #[] #[{ accessFlags := 2, nameIndex := 9, descriptorIndex := 19, attributes := #[] }] 33 16 #[] #[{ accessFlags := 24, nameIndex := 28, descriptorIndex := 29, attributes := #[] }, { accessFlags := 26, nameIndex := 38, descriptorIndex := 39, attributes := #[] }, { accessFlags := 25, nameIndex := 121, descriptorIndex := 25, attributes := #[] }, { accessFlags := 25, nameIndex := 131, descriptorIndex := 25, attributes := #[] }, { accessFlags := 25, nameIndex := 137, descriptorIndex := 25, attributes := #[] }, { accessFlags := 25, nameIndex := 143, descriptorIndex := 25, attributes := #[] }, { accessFlags := 25, nameIndex := 53, descriptorIndex := 25, attributes := #[] }, { accessFlags := 25, nameIndex := 24, descriptorIndex := 25, attributes := #[] }, { accessFlags := 25, nameIndex := 162, descriptorIndex := 25, attributes := #[] }, { accessFlags := 25, nameIndex := 187, descriptorIndex := 25, attributes := #[] }, { accessFlags := 26, nameIndex := 48, descriptorIndex := 25, attributes := #[] }, { accessFlags := 25, nameIndex := 277, descriptorIndex := 25, attributes := #[] }, { accessFlags := 25, nameIndex := 280, descriptorIndex := 25, attributes := #[] }, { accessFlags := 25, nameIndex := 282, descriptorIndex := 25, attributes := #[] }, { accessFlags := 25, nameIndex := 284, descriptorIndex := 25, attributes := #[] }, { accessFlags := 25, nameIndex := 286, descriptorIndex := 25, attributes := #[] }, { accessFlags := 25, nameIndex := 288, descriptorIndex := 25, attributes := #[] }, { accessFlags := 25, nameIndex := 290, descriptorIndex := 25, attributes := #[] }, { accessFlags := 25, nameIndex := 292, descriptorIndex := 25, attributes := #[] }, { accessFlags := 26, nameIndex := 108, descriptorIndex := 109, attributes := #[] }, { accessFlags := 25, nameIndex := 294, descriptorIndex := 25, attributes := #[] }])
  fields := #[{ name := "U", type := (.object "jdk/internal/misc/Unsafe"), accessFlags := 24, slot := 0, constantValue := 0 }, { name := "BIG_ENDIAN", type := .boolean, accessFlags := 26, slot := 1, constantValue := 0 }, { name := "LOG2_ARRAY_BOOLEAN_INDEX_SCALE", type := .int, accessFlags := 25, slot := 2, constantValue := 0 }, { name := "LOG2_ARRAY_BYTE_INDEX_SCALE", type := .int, accessFlags := 25, slot := 3, constantValue := 0 }, { name := "LOG2_ARRAY_CHAR_INDEX_SCALE", type := .int, accessFlags := 25, slot := 4, constantValue := 0 }, { name := "LOG2_ARRAY_SHORT_INDEX_SCALE", type := .int, accessFlags := 25, slot := 5, constantValue := 0 }, { name := "LOG2_ARRAY_INT_INDEX_SCALE", type := .int, accessFlags := 25, slot := 6, constantValue := 0 }, { name := "LOG2_ARRAY_LONG_INDEX_SCALE", type := .int, accessFlags := 25, slot := 7, constantValue := 0 }, { name := "LOG2_ARRAY_FLOAT_INDEX_SCALE", type := .int, accessFlags := 25, slot := 8, constantValue := 0 }, { name := "LOG2_ARRAY_DOUBLE_INDEX_SCALE", type := .int, accessFlags := 25, slot := 9, constantValue := 0 }, { name := "LOG2_BYTE_BIT_SIZE", type := .int, accessFlags := 26, slot := 10, constantValue := 0 }, { name := "T_BOOLEAN", type := .int, accessFlags := 25, slot := 11, constantValue := 0 }, { name := "T_CHAR", type := .int, accessFlags := 25, slot := 12, constantValue := 0 }, { name := "T_FLOAT", type := .int, accessFlags := 25, slot := 13, constantValue := 0 }, { name := "T_DOUBLE", type := .int, accessFlags := 25, slot := 14, constantValue := 0 }, { name := "T_BYTE", type := .int, accessFlags := 25, slot := 15, constantValue := 0 }, { name := "T_SHORT", type := .int, accessFlags := 25, slot := 16, constantValue := 0 }, { name := "T_INT", type := .int, accessFlags := 25, slot := 17, constantValue := 0 }, { name := "T_LONG", type := .int, accessFlags := 25, slot := 18, constantValue := 0 }, { name := "JLA", type := (.object "jdk/internal/access/JavaLangAccess"), accessFlags := 26, slot := 19, constantValue := 0 }, { name := "SOFT_MAX_ARRAY_LENGTH", type := .int, accessFlags := 25, slot := 20, constantValue := 0 }]
  methods := #[k12m0]
  instanceTypes := #[]
  staticTypes := #[(.object "jdk/internal/misc/Unsafe"), .boolean, .int, .int, .int, .int, .int, .int, .int, .int, .int, .int, .int, .int, .int, .int, .int, .int, .int, (.object "jdk/internal/access/JavaLangAccess"), .int]
  resolved := Array.replicate 378 none
  statics := none }

def pool13 : Array CpInfo := pool [(1, u "java/lang/Cloneable"), (0, .class_ 1), (0, u "java/lang/Object"), (0, .class_ 3)] 3

/-- java/lang/Cloneable -/
def k13 : Class := { plain "java/lang/Cloneable" (some 0) with
  accessFlags := 1537
  interfaces := #[]
  cf := some (fileOf pool13 2 #[] #[] 1537 4 #[] #[])
  fields := #[]
  methods := #[]
  instanceTypes := #[]
  staticTypes := #[]
  resolved := Array.replicate 8 none
  statics := none }

/-- the primitive byte -/
def k14 : Class := { plain "byte" none with kind := .primitive 'B', accessFlags := 0x411 }
/-- [B -/
def k15 : Class := { plain "[B" (some 0) with kind := .array 14 .byte, interfaces := #[13, 2], accessFlags := 1041 }

/-- the primitive char -/
def k16 : Class := { plain "char" none with kind := .primitive 'C', accessFlags := 0x411 }
/-- [C -/
def k17 : Class := { plain "[C" (some 0) with kind := .array 16 .char, interfaces := #[13, 2], accessFlags := 1041 }

/-- the primitive int -/
def k18 : Class := { plain "int" none with kind := .primitive 'I', accessFlags := 0x411 }
/-- [I -/
def k19 : Class := { plain "[I" (some 0) with kind := .array 18 .int, interfaces := #[13, 2], accessFlags := 1041 }

def heap : Heap := #[{ cls := 7, slots := #[.long 0, .int 1, .null, .int 0, .null, .int 0, .int 0], vm := .statics 7 },
  { cls := 11, slots := #[.null, .null, .null], vm := .statics 11 }]
def classes : Array Class := #[k0, k1, k2, k3, k4, k5, k6, k7, k8, k9, k10, k11, k12, k13, k14, k15, k16, k17, k18, k19]
def interned : List (Array UInt16 × Addr) := []
def slotsUsed : Nat := 10
def theMethod : MethodId := ⟨1, 1⟩
def args0 : Array Value := #[.int 5, .int 6, .int 7, .int 8]
def aboutOver (below : List Frame) : State where
  vm := { classes := classes, interned := interned.toArray }
  heap := heap
  slotsUsed := slotsUsed
  threads := #[{ frames := .invoking theMethod args0 :: below }]
def below0 : List Frame := [.native { method := ⟨0, 0⟩, args := #[] }]
def about1 : State := aboutOver below0
def p0 : Program := .bare "" "" ""
def e0 : Env := launch0.env 0 0 0
theorem w_frames : about1.frames = Frame.invoking theMethod args0 :: below0 := rfl
set_option maxRecDepth 65536 in
theorem w_args : argsFit about1.vm theMethod args0 = true := by decide +kernel
set_option maxRecDepth 65536 in
theorem w_heap : heapFits about1 = true := by decide +kernel
set_option maxRecDepth 65536 in
theorem w_runnable : about1.curStatus? = some .runnable := by decide +kernel
set_option maxRecDepth 65536 in
theorem w_alone : about1.alone = true := by decide +kernel
set_option maxRecDepth 65536 in
theorem w_named : about1.methodNamed? x = some theMethod := by decide +kernel
set_option maxRecDepth 65536 in
theorem w_hears : about1.hears theMethod below0 = true := by decide +kernel
set_option maxRecDepth 65536 in
theorem w_ripe : about1.ripe theMethod args0 below0 = true := by decide +kernel
theorem w_running : about1.status = .running := rfl
set_option maxRecDepth 65536 in
theorem w_room : about1.hasRoom e0.platform room_1 = true :=
  launch0.hasRoom_least _ room_1 (by decide +kernel) (by decide +kernel) (by decide +kernel) (by decide +kernel) (by decide +kernel) (by decide +kernel)
theorem allAtoms_all (ts : List Jvm.Cond) (a : Array Jvm.Value) (st : Jvm.State) : (allAtoms ts).before a st = ts.all (fun c => c.before a st) := by
  induction ts with
  | nil => rfl
  | cons c t ih =>
    show (Jvm.Cond.and c (allAtoms t)).before a st = _
    rw [Jvm.Cond.before_and, ih, List.all_cons]
def words1 : List Jvm.Cond := Jvm.Cond.code x code maxLocals ret :: tables_1
/-- a 'code' word, met by the world's own term for the bytes: nothing is compared byte by byte -/
theorem code_word {y : MethodName} {bytes : ByteArray} {mx : Nat} {rt : Option FieldType} {a : Array Value} {s : State} {m : MethodId} {meth : Method} {c : Code} (h1 : s.methodNamed? y = some m) (h2 : s.vm.method? m = some meth) (h3 : meth.code = some c) (h4 : c.code = bytes)
    (h5 : (c.maxLocals == mx && c.exceptionTable.isEmpty && decide (c.maxStack ≤ mostOperands) && decide (meth.sig.returnType = rt) && !meth.locks && decide (parseMethodDescriptor y.desc = some meth.sig)) = true) : (Jvm.Cond.code y bytes mx rt).before a s = true := by
  simp only [Bool.and_eq_true, beq_iff_eq, Bool.not_eq_true', decide_eq_true_eq] at h5
  obtain ⟨⟨⟨⟨⟨g1, g2⟩, g3⟩, g4⟩, g5⟩, g6⟩ := h5
  simp [Cond.before, Cond.holds, Cond.value, h1, h2, h3, h4, g1, g2, g3, g4, g5, g6]
def isCode : Jvm.Cond → Bool
  | .code _ _ _ _ => true
  | _ => false
theorem all_split {L : List Jvm.Cond} {P : Jvm.Cond → Bool} (h1 : L.all (fun c => isCode c || P c) = true) (h2 : ∀ c ∈ L.filter isCode, P c = true) : L.all P = true := by
  refine List.all_eq_true.mpr fun c hc => ?_
  have h := List.all_eq_true.mp h1 c hc
  rcases Bool.eq_false_or_eq_true (isCode c) with hi | hi
  · exact h2 c (List.mem_filter.mpr ⟨hc, hi⟩)
  · simpa [hi] using h
set_option maxRecDepth 65536 in
theorem w_c0 : (Jvm.Cond.code x code maxLocals ret).before args0 about1 = true := code_word (m := ⟨1, 1⟩) (meth := k1m1) (c := k1c1) (by decide +kernel) rfl rfl rfl (by decide +kernel)
set_option maxRecDepth 65536 in
theorem w_c1 : (Jvm.Cond.code ({ cls := "com/example/oyster/oyster/engine/LiteralsNumberEndPinLaw", name := "charOf", desc := "(I)C" } : Jvm.MethodName) method_5_code (3 : Nat) (Option.some Jvm.ClassFile.FieldType.char)).before args0 about1 = true := code_word (m := ⟨1, 4⟩) (meth := k1m4) (c := k1c4) (by decide +kernel) rfl rfl rfl (by decide +kernel)
set_option maxRecDepth 65536 in
theorem w_c2 : (Jvm.Cond.code ({ cls := "java/lang/String", name := "<init>", desc := "([C)V" } : Jvm.MethodName) jdk_42_method_3_code (2 : Nat) (Option.none : Option Jvm.ClassFile.FieldType)).before args0 about1 = true := code_word (m := ⟨7, 1⟩) (meth := k7m1) (c := k7c1) (by decide +kernel) rfl rfl rfl (by decide +kernel)
set_option maxRecDepth 65536 in
theorem w_c3 : (Jvm.Cond.code ({ cls := "java/lang/String", name := "<init>", desc := "([CIILjava/lang/Void;)V" } : Jvm.MethodName) jdk_42_method_149_code (6 : Nat) (Option.none : Option Jvm.ClassFile.FieldType)).before args0 about1 = true := code_word (m := ⟨7, 4⟩) (meth := k7m4) (c := k7c4) (by decide +kernel) rfl rfl rfl (by decide +kernel)
set_option maxRecDepth 65536 in
theorem w_c4 : (Jvm.Cond.code ({ cls := "java/lang/Object", name := "<init>", desc := "()V" } : Jvm.MethodName) object_method_1_code (1 : Nat) (Option.none : Option Jvm.ClassFile.FieldType)).before args0 about1 = true := code_word (m := ⟨0, 0⟩) (meth := k0m0) (c := k0c0) (by decide +kernel) rfl rfl rfl (by decide +kernel)
set_option maxRecDepth 65536 in
theorem w_c5 : (Jvm.Cond.code ({ cls := "java/lang/StringUTF16", name := "compress", desc := "([CII)[B" } : Jvm.MethodName) jdk_52_method_16_code (6 : Nat) (Option.some (Jvm.ClassFile.FieldType.array Jvm.ClassFile.FieldType.byte))).before args0 about1 = true := code_word (m := ⟨8, 2⟩) (meth := k8m2) (c := k8c2) (by decide +kernel) rfl rfl rfl (by decide +kernel)
set_option maxRecDepth 65536 in
theorem w_c6 : (Jvm.Cond.code ({ cls := "java/lang/StringUTF16", name := "compress", desc := "([CI[BII)I" } : Jvm.MethodName) jdk_52_method_21_code (7 : Nat) (Option.some Jvm.ClassFile.FieldType.int)).before args0 about1 = true := code_word (m := ⟨8, 3⟩) (meth := k8m3) (c := k8c3) (by decide +kernel) rfl rfl rfl (by decide +kernel)
set_option maxRecDepth 65536 in
theorem w_c7 : (Jvm.Cond.code ({ cls := "java/lang/StringUTF16", name := "coderFromArrayLen", desc := "([BI)B" } : Jvm.MethodName) jdk_52_method_15_code (2 : Nat) (Option.some Jvm.ClassFile.FieldType.byte)).before args0 about1 = true := code_word (m := ⟨8, 1⟩) (meth := k8m1) (c := k8c1) (by decide +kernel) rfl rfl rfl (by decide +kernel)
set_option maxRecDepth 65536 in
theorem w_c8 : (Jvm.Cond.code ({ cls := "com/example/oyster/oyster/engine/LiteralsNumberEndPinLaw", name := "step", desc := "([CI)I" } : Jvm.MethodName) method_4_code (2 : Nat) (Option.some Jvm.ClassFile.FieldType.int)).before args0 about1 = true := code_word (m := ⟨1, 3⟩) (meth := k1m3) (c := k1c3) (by decide +kernel) rfl rfl rfl (by decide +kernel)
set_option maxRecDepth 65536 in
theorem w_c9 : (Jvm.Cond.code ({ cls := "com/example/oyster/oyster/engine/LiteralsNumberEndPinLaw", name := "dig", desc := "(C)Z" } : Jvm.MethodName) method_3_code (1 : Nat) (Option.some Jvm.ClassFile.FieldType.boolean)).before args0 about1 = true := code_word (m := ⟨1, 2⟩) (meth := k1m2) (c := k1c2) (by decide +kernel) rfl rfl rfl (by decide +kernel)
set_option maxRecDepth 65536 in
theorem w_c10 : (Jvm.Cond.code ({ cls := "com/example/oyster/oyster/engine/Literals", name := "numberEnd", desc := "(Ljava/lang/String;I)I" } : Jvm.MethodName) prog_13_method_2_code (3 : Nat) (Option.some Jvm.ClassFile.FieldType.int)).before args0 about1 = true := code_word (m := ⟨9, 1⟩) (meth := k9m1) (c := k9c1) (by decide +kernel) rfl rfl rfl (by decide +kernel)
set_option maxRecDepth 65536 in
theorem w_c11 : (Jvm.Cond.code ({ cls := "com/example/oyster/oyster/engine/Literals", name := "digitsEnd", desc := "(Ljava/lang/String;I)I" } : Jvm.MethodName) prog_13_method_5_code (2 : Nat) (Option.some Jvm.ClassFile.FieldType.int)).before args0 about1 = true := code_word (m := ⟨9, 3⟩) (meth := k9m3) (c := k9c3) (by decide +kernel) rfl rfl rfl (by decide +kernel)
set_option maxRecDepth 65536 in
theorem w_c12 : (Jvm.Cond.code ({ cls := "java/lang/String", name := "length", desc := "()I" } : Jvm.MethodName) jdk_42_method_54_code (1 : Nat) (Option.some Jvm.ClassFile.FieldType.int)).before args0 about1 = true := code_word (m := ⟨7, 2⟩) (meth := k7m2) (c := k7c2) (by decide +kernel) rfl rfl rfl (by decide +kernel)
set_option maxRecDepth 65536 in
theorem w_c13 : (Jvm.Cond.code ({ cls := "java/lang/String", name := "coder", desc := "()B" } : Jvm.MethodName) jdk_42_method_152_code (1 : Nat) (Option.some Jvm.ClassFile.FieldType.byte)).before args0 about1 = true := code_word (m := ⟨7, 5⟩) (meth := k7m5) (c := k7c5) (by decide +kernel) rfl rfl rfl (by decide +kernel)
set_option maxRecDepth 65536 in
theorem w_c14 : (Jvm.Cond.code ({ cls := "java/lang/String", name := "charAt", desc := "(I)C" } : Jvm.MethodName) jdk_42_method_56_code (2 : Nat) (Option.some Jvm.ClassFile.FieldType.char)).before args0 about1 = true := code_word (m := ⟨7, 3⟩) (meth := k7m3) (c := k7c3) (by decide +kernel) rfl rfl rfl (by decide +kernel)
set_option maxRecDepth 65536 in
theorem w_c15 : (Jvm.Cond.code ({ cls := "java/lang/String", name := "isLatin1", desc := "()Z" } : Jvm.MethodName) jdk_42_method_154_code (1 : Nat) (Option.some Jvm.ClassFile.FieldType.boolean)).before args0 about1 = true := code_word (m := ⟨7, 6⟩) (meth := k7m6) (c := k7c6) (by decide +kernel) rfl rfl rfl (by decide +kernel)
set_option maxRecDepth 65536 in
theorem w_c16 : (Jvm.Cond.code ({ cls := "java/lang/StringLatin1", name := "charAt", desc := "([BI)C" } : Jvm.MethodName) jdk_43_method_2_code (2 : Nat) (Option.some Jvm.ClassFile.FieldType.char)).before args0 about1 = true := code_word (m := ⟨10, 1⟩) (meth := k10m1) (c := k10c1) (by decide +kernel) rfl rfl rfl (by decide +kernel)
set_option maxRecDepth 65536 in
theorem w_c17 : (Jvm.Cond.code ({ cls := "java/lang/String", name := "checkIndex", desc := "(II)V" } : Jvm.MethodName) jdk_42_method_155_code (2 : Nat) (Option.none : Option Jvm.ClassFile.FieldType)).before args0 about1 = true := code_word (m := ⟨7, 7⟩) (meth := k7m7) (c := k7c7) (by decide +kernel) rfl rfl rfl (by decide +kernel)
set_option maxRecDepth 65536 in
theorem w_c18 : (Jvm.Cond.code ({ cls := "jdk/internal/util/Preconditions", name := "checkIndex", desc := "(IILjava/util/function/BiFunction;)I" } : Jvm.MethodName) jdk_41_method_11_code (3 : Nat) (Option.some Jvm.ClassFile.FieldType.int)).before args0 about1 = true := code_word (m := ⟨11, 1⟩) (meth := k11m1) (c := k11c1) (by decide +kernel) rfl rfl rfl (by decide +kernel)
set_option maxRecDepth 65536 in
theorem w_c19 : (Jvm.Cond.code ({ cls := "com/example/oyster/oyster/engine/Literals", name := "isDigit", desc := "(C)Z" } : Jvm.MethodName) prog_13_method_4_code (1 : Nat) (Option.some Jvm.ClassFile.FieldType.boolean)).before args0 about1 = true := code_word (m := ⟨9, 2⟩) (meth := k9m2) (c := k9c2) (by decide +kernel) rfl rfl rfl (by decide +kernel)
def codes1 : List Jvm.Cond := [Jvm.Cond.code x code maxLocals ret, Jvm.Cond.code ({ cls := "com/example/oyster/oyster/engine/LiteralsNumberEndPinLaw", name := "charOf", desc := "(I)C" } : Jvm.MethodName) method_5_code (3 : Nat) (Option.some Jvm.ClassFile.FieldType.char), Jvm.Cond.code ({ cls := "java/lang/String", name := "<init>", desc := "([C)V" } : Jvm.MethodName) jdk_42_method_3_code (2 : Nat) (Option.none : Option Jvm.ClassFile.FieldType), Jvm.Cond.code ({ cls := "java/lang/String", name := "<init>", desc := "([CIILjava/lang/Void;)V" } : Jvm.MethodName) jdk_42_method_149_code (6 : Nat) (Option.none : Option Jvm.ClassFile.FieldType), Jvm.Cond.code ({ cls := "java/lang/Object", name := "<init>", desc := "()V" } : Jvm.MethodName) object_method_1_code (1 : Nat) (Option.none : Option Jvm.ClassFile.FieldType), Jvm.Cond.code ({ cls := "java/lang/StringUTF16", name := "compress", desc := "([CII)[B" } : Jvm.MethodName) jdk_52_method_16_code (6 : Nat) (Option.some (Jvm.ClassFile.FieldType.array Jvm.ClassFile.FieldType.byte)), Jvm.Cond.code ({ cls := "java/lang/StringUTF16", name := "compress", desc := "([CI[BII)I" } : Jvm.MethodName) jdk_52_method_21_code (7 : Nat) (Option.some Jvm.ClassFile.FieldType.int), Jvm.Cond.code ({ cls := "java/lang/StringUTF16", name := "coderFromArrayLen", desc := "([BI)B" } : Jvm.MethodName) jdk_52_method_15_code (2 : Nat) (Option.some Jvm.ClassFile.FieldType.byte), Jvm.Cond.code ({ cls := "com/example/oyster/oyster/engine/LiteralsNumberEndPinLaw", name := "step", desc := "([CI)I" } : Jvm.MethodName) method_4_code (2 : Nat) (Option.some Jvm.ClassFile.FieldType.int), Jvm.Cond.code ({ cls := "com/example/oyster/oyster/engine/LiteralsNumberEndPinLaw", name := "dig", desc := "(C)Z" } : Jvm.MethodName) method_3_code (1 : Nat) (Option.some Jvm.ClassFile.FieldType.boolean), Jvm.Cond.code ({ cls := "com/example/oyster/oyster/engine/Literals", name := "numberEnd", desc := "(Ljava/lang/String;I)I" } : Jvm.MethodName) prog_13_method_2_code (3 : Nat) (Option.some Jvm.ClassFile.FieldType.int), Jvm.Cond.code ({ cls := "com/example/oyster/oyster/engine/Literals", name := "digitsEnd", desc := "(Ljava/lang/String;I)I" } : Jvm.MethodName) prog_13_method_5_code (2 : Nat) (Option.some Jvm.ClassFile.FieldType.int), Jvm.Cond.code ({ cls := "java/lang/String", name := "length", desc := "()I" } : Jvm.MethodName) jdk_42_method_54_code (1 : Nat) (Option.some Jvm.ClassFile.FieldType.int), Jvm.Cond.code ({ cls := "java/lang/String", name := "coder", desc := "()B" } : Jvm.MethodName) jdk_42_method_152_code (1 : Nat) (Option.some Jvm.ClassFile.FieldType.byte), Jvm.Cond.code ({ cls := "java/lang/String", name := "charAt", desc := "(I)C" } : Jvm.MethodName) jdk_42_method_56_code (2 : Nat) (Option.some Jvm.ClassFile.FieldType.char), Jvm.Cond.code ({ cls := "java/lang/String", name := "isLatin1", desc := "()Z" } : Jvm.MethodName) jdk_42_method_154_code (1 : Nat) (Option.some Jvm.ClassFile.FieldType.boolean), Jvm.Cond.code ({ cls := "java/lang/StringLatin1", name := "charAt", desc := "([BI)C" } : Jvm.MethodName) jdk_43_method_2_code (2 : Nat) (Option.some Jvm.ClassFile.FieldType.char), Jvm.Cond.code ({ cls := "java/lang/String", name := "checkIndex", desc := "(II)V" } : Jvm.MethodName) jdk_42_method_155_code (2 : Nat) (Option.none : Option Jvm.ClassFile.FieldType), Jvm.Cond.code ({ cls := "jdk/internal/util/Preconditions", name := "checkIndex", desc := "(IILjava/util/function/BiFunction;)I" } : Jvm.MethodName) jdk_41_method_11_code (3 : Nat) (Option.some Jvm.ClassFile.FieldType.int), Jvm.Cond.code ({ cls := "com/example/oyster/oyster/engine/Literals", name := "isDigit", desc := "(C)Z" } : Jvm.MethodName) prog_13_method_4_code (1 : Nat) (Option.some Jvm.ClassFile.FieldType.boolean)]
set_option maxRecDepth 65536 in
theorem codes_eq : words1.filter isCode = codes1 := rfl
theorem w_codes : ∀ c ∈ words1.filter isCode, c.before args0 about1 = true := by
  rw [codes_eq]
  intro c hc
  simp only [codes1, List.mem_cons, List.not_mem_nil, or_false] at hc
  rcases hc with rfl | rfl | rfl | rfl | rfl | rfl | rfl | rfl | rfl | rfl | rfl | rfl | rfl | rfl | rfl | rfl | rfl | rfl | rfl | rfl
  · exact w_c0
  · exact w_c1
  · exact w_c2
  · exact w_c3
  · exact w_c4
  · exact w_c5
  · exact w_c6
  · exact w_c7
  · exact w_c8
  · exact w_c9
  · exact w_c10
  · exact w_c11
  · exact w_c12
  · exact w_c13
  · exact w_c14
  · exact w_c15
  · exact w_c16
  · exact w_c17
  · exact w_c18
  · exact w_c19
set_option maxRecDepth 65536 in
theorem w_t1 : (words1.take 24).all (fun c => isCode c || c.before args0 about1) = true := by decide +kernel
set_option maxRecDepth 65536 in
theorem w_t2 : ((words1.drop 24).take 24).all (fun c => isCode c || c.before args0 about1) = true := by decide +kernel
set_option maxRecDepth 65536 in
theorem w_t3 : (((words1.drop 24).drop 24).take 24).all (fun c => isCode c || c.before args0 about1) = true := by decide +kernel
set_option maxRecDepth 65536 in
theorem w_t4 : (((words1.drop 24).drop 24).drop 24).all (fun c => isCode c || c.before args0 about1) = true := by decide +kernel
theorem w_tables : (allAtoms (Jvm.Cond.code x code maxLocals ret :: tables_1)).before args0 about1 = true := by
  rw [allAtoms_all]
  show words1.all (fun c => c.before args0 about1) = true
  refine all_split ?_ w_codes
  rw [← List.take_append_drop 24 words1, List.all_append, w_t1, ← List.take_append_drop 24 (words1.drop 24), List.all_append, w_t2, ← List.take_append_drop 24 ((words1.drop 24).drop 24), List.all_append, w_t3, w_t4]
  rfl
set_option maxRecDepth 65536 in
theorem w_rest : rest_1_c.before args0 about1 = true := by decide +kernel
set_option maxRecDepth 65536 in
theorem w_case : (Jvm.Cond.and given_1 narrow_1).before args0 about1 = true := by decide +kernel
theorem w_applies : (headSpec (Jvm.Cond.code x code maxLocals ret :: tables_1) room_1).applies x e0.platform about1 = true :=
  (Spec.applies_iff w_frames).mpr ⟨w_running, w_runnable, w_alone, w_named, w_hears, w_ripe, w_room, w_tables⟩
theorem atStart : AtStart classFile x code maxLocals ret World_1 tables_1 room_1 Calls_1 rest_1 Pre_1 launch0 p0 e0 about1 theMethod args0 below0 :=
  ⟨lists_1, trivial, launch0.admits_env _ _ _, launch0.least_env, fairChoices_fair.cas, fairChoices_fair.clock, w_frames, w_args, w_heap, w_applies, trivial, w_rest, w_case⟩
end start1
theorem witness_1 : WitnessClaimed_1 := ⟨start1.p0, start1.e0, start1.about1, start1.theMethod, start1.args0, start1.below0, start1.atStart⟩
end Jvm.Pilot.@@N@@
