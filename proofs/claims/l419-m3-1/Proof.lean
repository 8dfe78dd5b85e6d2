import JvmDerived
import JvmDerived.Pilot.@@N@@Statement
import JvmDerived.Pilot.@@N@@Code
set_option linter.unusedVariables false
set_option linter.unusedSimpArgs false
namespace Jvm.RoadKit
open Sem ClassFile Op Lib Jvm.Stand Jvm.Free Jvm.LawKit
section New
variable {p : Program} {l : Launch} {e : Env} {R : Room} {s : State} {m : MethodId} {args : Array Value} {below : List Frame} {meth : Method} {c : Code} {T : State} {locs : List Loc} {cells slots : Nat}
theorem retI (X : Stand p l e R s m args below meth c T locs cells slots) (hx : p.tables.exec = Jvm.exec) {pc : Nat} {Ls : Array Slot} {z : Int32} {rest : List Value} (hret : meth.sig.returnType = some .int) (hd : decode c.code pc = .ok (.ireturn, 1)) {fs : List Frame}
    (hl : ∀ (f : JFrame) (acts : List Action), f.method = m → f.locked = none → f.entered = [] → (doReturn e (T.setTop f) acts (some (.int z))).1 = T.setFrames fs) : Steps p.tables e below (T.setTop (mkF m pc Ls (.int z :: rest))) (T.setFrames fs) :=
  retOut X hx hret rfl (Or.inl ⟨rfl, Or.inl rfl, z, rfl⟩) hd hl
end New
end Jvm.RoadKit
namespace Jvm.Pilot.@@N@@
namespace StrChars
open Jvm Sem ClassFile Op Lib Jvm.Stand Jvm.Free.XT Jvm.Free.ALB Jvm.Free.JM Jvm.Free
open Jvm.Lib.Cold (StaticIs)
def Ch (a : Addr) (A : Cell) (U : State) : Prop := Arr .char a A U ∧ Typed .char A
theorem Ch.mv {a : Addr} {A : Cell} {U U' : State} (h : Ch a A U) (hal : U.vm.Alike U'.vm) (hh : U'.heap = U.heap) : Ch a A U' := ⟨h.1.mv hal hh, h.2⟩
theorem Ch.keep {a : Addr} {A : Cell} {U U' : State} (h : Ch a A U) (hal : U.vm.Alike U'.vm) (hk : U'.heap[a]? = some A) : Ch a A U' := ⟨h.1.keep hal hk, h.2⟩
def cv (A : Cell) (i : Nat) : Int32 := match A.slots[i]? with | some (.int x) => x | _ => 0
theorem Ch.get {a : Addr} {A : Cell} {U : State} (h : Ch a A U) {i : Nat} (hi : i < A.slots.size) : A.slots[i]? = some (.int (cv A i)) := by
  have e := Array.getElem?_eq_getElem hi
  have f := h.2 i _ e
  unfold cv; rw [e]
  generalize A.slots[i] = v at f
  cases v <;> simp [fits] at f ⊢
def lo8 (x : Int32) : Int32 := x.toInt8.toInt32
theorem fits_lo8 (y : Int32) : fits .byte (.int (lo8 y)) = true := by
  have h1 := y.toInt8.le_toInt
  have h2 := y.toInt8.toInt_lt
  simp only [lo8, fits, Bool.and_eq_true, decide_eq_true_eq, Int32.le_iff_toInt_le, Int8.toInt_toInt32, show (-128 : Int32).toInt = -128 from by decide, show (127 : Int32).toInt = 127 from by decide]
  omega
def Laid (A A' : Cell) (lo hi : Nat) (f : Nat → Value) : Prop := A'.cls = A.cls ∧ A'.vm = A.vm ∧ A'.slots.size = A.slots.size ∧ ∀ i, A'.slots[i]? = if lo ≤ i ∧ i < hi then some (f i) else A.slots[i]?
theorem Laid.zero (A : Cell) (lo : Nat) (f : Nat → Value) : Laid A A lo (lo + 0) f := ⟨rfl, rfl, rfl, fun i => by rw [if_neg (by omega)]⟩
theorem Laid.step {A Ak : Cell} {lo k : Nat} {f : Nat → Value} {v : Value} (h : Laid A Ak lo k f) (hlo : lo ≤ k) (hk : k < Ak.slots.size) (hv : v = f k) : Laid A (Ak.setSlot k v) lo (k + 1) f := by
  refine ⟨h.1, h.2.1, by simpa [Cell.setSlot] using h.2.2.1, fun i => ?_⟩
  by_cases e : k = i
  · subst e; rw [Cell.slots_setSlot_self v hk, if_pos (by omega), hv]
  · rw [Cell.slots_setSlot_ne v e, h.2.2.2 i]
    by_cases q : lo ≤ i ∧ i < k
    · rw [if_pos q, if_pos (by omega)]
    · rw [if_neg q, if_neg (by omega)]
def U16 : String := "java/lang/StringUTF16"
namespace Cmp5
def yN : MethodName := ⟨"java/lang/StringUTF16", "compress", "([CI[BII)I"⟩
abbrev yB : ByteArray := jdk_52_method_21_code
theorem d0 : decode yB 0 = .ok (.iconst 0, 1) := by decide +kernel
theorem d1 : decode yB 1 = .ok (.istore 5, 2) := by decide +kernel
theorem d3 : decode yB 3 = .ok (.iload 5, 2) := by decide +kernel
theorem d5 : decode yB 5 = .ok (.iload 4, 2) := by decide +kernel
theorem d7 : decode yB 7 = .ok (.if_icmp (.ge) 37, 3) := by decide +kernel
theorem d10 : decode yB 10 = .ok (.aload_n 0, 1) := by decide +kernel
theorem d11 : decode yB 11 = .ok (.iload_n 1, 1) := by decide +kernel
theorem d12 : decode yB 12 = .ok (.caload, 1) := by decide +kernel
theorem d13 : decode yB 13 = .ok (.istore 6, 2) := by decide +kernel
theorem d15 : decode yB 15 = .ok (.iload 6, 2) := by decide +kernel
theorem d17 : decode yB 17 = .ok (.sipush 255, 3) := by decide +kernel
theorem d20 : decode yB 20 = .ok (.if_icmp (.le) 6, 3) := by decide +kernel
theorem d26 : decode yB 26 = .ok (.aload_n 2, 1) := by decide +kernel
theorem d27 : decode yB 27 = .ok (.iload_n 3, 1) := by decide +kernel
theorem d28 : decode yB 28 = .ok (.iload 6, 2) := by decide +kernel
theorem d30 : decode yB 30 = .ok (.i2b, 1) := by decide +kernel
theorem d31 : decode yB 31 = .ok (.bastore, 1) := by decide +kernel
theorem d32 : decode yB 32 = .ok (.iinc 1 1, 3) := by decide +kernel
theorem d35 : decode yB 35 = .ok (.iinc 3 1, 3) := by decide +kernel
theorem d38 : decode yB 38 = .ok (.iinc 5 1, 3) := by decide +kernel
theorem d41 : decode yB 41 = .ok (.goto (-38), 3) := by decide +kernel
theorem d44 : decode yB 44 = .ok (.iload 4, 2) := by decide +kernel
theorem d46 : decode yB 46 = .ok (.ireturn, 1) := by decide +kernel
def site : List Cond := []
def tab : Cond := tabOf yN yB 7 (some .int) site
def P (b : Addr) (A : Cell) (d : Addr) (B : Cell) (o q len : Nat) (args : Array Value) (s : State) : Prop := args = #[.ref b, .int (Int32.ofNat o), .ref d, .int (Int32.ofNat q), .int (Int32.ofNat len)] ∧ Ch b A s ∧ Arr .byte d B s ∧ b ≠ d ∧ o + len ≤ A.slots.size ∧ q + len ≤ B.slots.size ∧ ∀ i, i < len → ¬ 255 < cv A (o + i)
def E (b : Addr) (A : Cell) (d : Addr) (B : Cell) (o q len : Nat) (r : Option Value) (s u : State) : Prop := r = some (.int (Int32.ofNat len)) ∧ ∃ B', Put d B' s u ∧ Laid B B' q (q + len) (fun j => Value.int (lo8 (cv A (o + (j - q)))))
theorem law (l : Launch) (b : Addr) (A : Cell) (d : Addr) (B : Cell) (o q len : Nat) : Law l yN 5 5 0 0 yB 7 (some .int) site (P b A d B o q len) (E b A d B o q len) (copyLocs d q len) 0 0 := by
  refine Law.of_walk (plainFor_of_name (by decide +kernel)) (by decide +kernel) (by decide +kernel) (by decide) (fun _ _ h => by rw [h.1]; rfl) (fun _ U U' hal hh h => ⟨h.1, h.2.1.mv hal hh, h.2.2.1.mv hal hh, h.2.2.2⟩) (fun r U U' V V' h1 hal h2 h => ⟨h.1, h.2.elim fun B' q => ⟨B', q.1.mv h1 h2, q.2⟩⟩) ?_
  intro p e s m args below meth c s₁ X0 hexec hbytes hml hret hlk hnm hown hh0 W hP
  obtain ⟨rfl, hA, hB, hne, l1, l2, hp⟩ := hP
  have c1 : Steps p.tables e below (s₁.setTop (entryFrame m #[.ref b, .int (Int32.ofNat o), .ref d, .int (Int32.ofNat q), .int (Int32.ofNat len)] 7)) (s₁.setTop (mkF m 0 #[.val (.ref b), .val (.int (Int32.ofNat o)), .val (.ref d), .val (.int (Int32.ofNat q)), .val (.int (Int32.ofNat len)), .unset, .unset] [])) := entry rfl
  have hA0 := hA.1.mv X0.warmed.alike hh0
  have hB0 := hB.mv X0.warmed.alike hh0
  have a31 := hA.1.2.2.2
  have c2 : Steps p.tables e below (s₁.setTop (entryFrame m #[.ref b, .int (Int32.ofNat o), .ref d, .int (Int32.ofNat q), .int (Int32.ofNat len)] 7)) (s₁.setTop (mkF m 3 #[.val (.ref b), .val (.int (Int32.ofNat o)), .val (.ref d), .val (.int (Int32.ofNat q)), .val (.int (Int32.ofNat len)), .val (.int 0), .unset] [])) := c1.trans (by
    refine iconstV X0.here hexec rfl 0 (hb hbytes d0) (by decide) ?_
    refine XS.istore X0.here hexec rfl (hb hbytes d1) rfl rfl ?_
    exact Steps.refl _)
  have loop : ∀ (r i : Nat), i + r = len → ∀ (z : Slot), (z = .unset ∨ ∃ w, z = .val w ∧ w.category = 1) → ∀ (Tl : State) (Bk : Cell), Stand p l e { frames := 0, locals := 0, cells := 0, slots := 0 } s m #[.ref b, .int (Int32.ofNat o), .ref d, .int (Int32.ofNat q), .int (Int32.ofNat len)] below meth c Tl ([] ++ copyLocs d q i) 0 0 → Put d Bk s₁ Tl → Laid B Bk q (q + i) (fun j => Value.int (lo8 (cv A (o + (j - q))))) →
      Steps p.tables e below (s₁.setTop (entryFrame m #[.ref b, .int (Int32.ofNat o), .ref d, .int (Int32.ofNat q), .int (Int32.ofNat len)] 7)) (Tl.setTop (mkF m 3 #[.val (.ref b), .val (.int (Int32.ofNat (o + i))), .val (.ref d), .val (.int (Int32.ofNat (q + i))), .val (.int (Int32.ofNat len)), .val (.int (Int32.ofNat i)), z] [])) → ∃ (T' : State) (B' : Cell) (z' : Slot), Stand p l e { frames := 0, locals := 0, cells := 0, slots := 0 } s m #[.ref b, .int (Int32.ofNat o), .ref d, .int (Int32.ofNat q), .int (Int32.ofNat len)] below meth c T' ([] ++ copyLocs d q len) 0 0 ∧ Put d B' s₁ T' ∧ Laid B B' q (q + len) (fun j => Value.int (lo8 (cv A (o + (j - q))))) ∧
      Steps p.tables e below (s₁.setTop (entryFrame m #[.ref b, .int (Int32.ofNat o), .ref d, .int (Int32.ofNat q), .int (Int32.ofNat len)] 7)) (T'.setTop (mkF m 3 #[.val (.ref b), .val (.int (Int32.ofNat (o + len))), .val (.ref d), .val (.int (Int32.ofNat (q + len))), .val (.int (Int32.ofNat len)), .val (.int (Int32.ofNat len)), z'] [])) := by
    intro r
    induction r with
    | zero =>
      intro i hi z hz Tl Bk Xl pl fl cl
      have hil : i = len := by omega
      rw [hil] at Xl fl cl
      exact ⟨Tl, Bk, z, Xl, pl, fl, cl⟩
    | succ r ih =>
      intro i hi z hz Tl Bk Xl pl fl cl
      have all := X0.warmed.alike.symm.trans Xl.warmed.alike
      have hAl := hA0.keep all (pl.other hne hA0.1)
      have hBk := hB0.like all pl.1 fl.1 fl.2.1 fl.2.2.1
      have hlt : q + i < Bk.slots.size := by rw [fl.2.2.1]; omega
      have c3 : Steps p.tables e below (s₁.setTop (entryFrame m #[.ref b, .int (Int32.ofNat o), .ref d, .int (Int32.ofNat q), .int (Int32.ofNat len)] 7)) (Tl.setTop (mkF m 12 #[.val (.ref b), .val (.int (Int32.ofNat (o + i))), .val (.ref d), .val (.int (Int32.ofNat (q + i))), .val (.int (Int32.ofNat len)), .val (.int (Int32.ofNat i)), z] [.int (Int32.ofNat (o + i)), .ref b])) := cl.trans (by
        refine XS.iload Xl.here hexec rfl (hb hbytes d3) rfl ?_
        refine XS.iload Xl.here hexec rfl (hb hbytes d5) rfl ?_
        refine XS.icmpNo Xl.here hexec rfl (hb hbytes d7) rfl (ii_ge_f (lt32 (by omega) (by omega))) ?_
        refine XS.aloadN Xl.here hexec rfl (hb hbytes d10) rfl rfl ?_
        refine XS.iloadN Xl.here hexec rfl (hb hbytes d11) rfl ?_
        exact Steps.refl _)
      have c4 : Steps p.tables e below (s₁.setTop (entryFrame m #[.ref b, .int (Int32.ofNat o), .ref d, .int (Int32.ofNat q), .int (Int32.ofNat len)] 7)) (Tl.setTop (mkF m 13 #[.val (.ref b), .val (.int (Int32.ofNat (o + i))), .val (.ref d), .val (.int (Int32.ofNat (q + i))), .val (.int (Int32.ofNat len)), .val (.int (Int32.ofNat i)), z] [.int (cv A (o + i))])) := c3.trans (by
        refine Xl.aget hexec hAl rfl (hA.get (i := o + i) (by omega)) rfl rfl (hb hbytes d12) ?_
        exact Steps.refl _)
      have c5 : Steps p.tables e below (s₁.setTop (entryFrame m #[.ref b, .int (Int32.ofNat o), .ref d, .int (Int32.ofNat q), .int (Int32.ofNat len)] 7)) (Tl.setTop (mkF m 15 #[.val (.ref b), .val (.int (Int32.ofNat (o + i))), .val (.ref d), .val (.int (Int32.ofNat (q + i))), .val (.int (Int32.ofNat len)), .val (.int (Int32.ofNat i)), .val (.int (cv A (o + i)))] [])) := c4.trans (by
        refine XS.istoreS Xl.here hexec rfl (hb hbytes d13) rfl rfl hz ?_
        exact Steps.refl _)
      have c6 : Steps p.tables e below (s₁.setTop (entryFrame m #[.ref b, .int (Int32.ofNat o), .ref d, .int (Int32.ofNat q), .int (Int32.ofNat len)] 7)) (Tl.setTop (mkF m 31 #[.val (.ref b), .val (.int (Int32.ofNat (o + i))), .val (.ref d), .val (.int (Int32.ofNat (q + i))), .val (.int (Int32.ofNat len)), .val (.int (Int32.ofNat i)), .val (.int (cv A (o + i)))] [.int (lo8 (cv A (o + i))), .int (Int32.ofNat (q + i)), .ref d])) := c5.trans (by
        refine XS.iload Xl.here hexec rfl (hb hbytes d15) rfl ?_
        refine sipushV Xl.here hexec rfl 255 (hb hbytes d17) (by decide) ?_
        refine XS.icmpYes Xl.here hexec rfl (pc0 := 20) rfl (hb hbytes d20) rfl (ii_le_t (hp i (by omega))) (by decide) rfl ?_
        refine XS.aloadN Xl.here hexec rfl (hb hbytes d26) rfl rfl ?_
        refine XS.iloadN Xl.here hexec rfl (hb hbytes d27) rfl ?_
        refine XS.iload Xl.here hexec rfl (hb hbytes d28) rfl ?_
        refine i2b Xl.here hexec rfl (hb hbytes d30) rfl ?_
        exact Steps.refl _)
      obtain ⟨T7, X7, p7, st7⟩ := Xl.aput hexec hBk rfl hlt rfl (fits_lo8 (cv A (o + i))) (g := (mkF m 31 #[.val (.ref b), .val (.int (Int32.ofNat (o + i))), .val (.ref d), .val (.int (Int32.ofNat (q + i))), .val (.int (Int32.ofNat len)), .val (.int (Int32.ofNat i)), .val (.int (cv A (o + i)))] [.int (lo8 (cv A (o + i))), .int (Int32.ofNat (q + i)), .ref d])) rfl (rest := []) rfl (hb hbytes d31)
      have c8 : Steps p.tables e below (s₁.setTop (entryFrame m #[.ref b, .int (Int32.ofNat o), .ref d, .int (Int32.ofNat q), .int (Int32.ofNat len)] 7)) (T7.setTop (mkF m 32 #[.val (.ref b), .val (.int (Int32.ofNat (o + i))), .val (.ref d), .val (.int (Int32.ofNat (q + i))), .val (.int (Int32.ofNat len)), .val (.int (Int32.ofNat i)), .val (.int (cv A (o + i)))] [])) := c6.trans (st7 _ (Steps.refl _))
      have c9 : Steps p.tables e below (s₁.setTop (entryFrame m #[.ref b, .int (Int32.ofNat o), .ref d, .int (Int32.ofNat q), .int (Int32.ofNat len)] 7)) (T7.setTop (mkF m 3 #[.val (.ref b), .val (.int (Int32.ofNat (o + i) + 1)), .val (.ref d), .val (.int (Int32.ofNat (q + i) + 1)), .val (.int (Int32.ofNat len)), .val (.int (Int32.ofNat i + 1)), .val (.int (cv A (o + i)))] [])) := c8.trans (by
        refine iincV X7.here hexec rfl 1 (hb hbytes d32) (by decide) rfl rfl ?_
        refine iincV X7.here hexec rfl 1 (hb hbytes d35) (by decide) rfl rfl ?_
        refine iincV X7.here hexec rfl 1 (hb hbytes d38) (by decide) rfl rfl ?_
        refine XS.goto X7.here hexec rfl (pc0 := 41) rfl (hb hbytes d41) (by decide) rfl ?_
        exact Steps.refl _)
      have c10 : Steps p.tables e below (s₁.setTop (entryFrame m #[.ref b, .int (Int32.ofNat o), .ref d, .int (Int32.ofNat q), .int (Int32.ofNat len)] 7)) (T7.setTop (mkF m 3 #[.val (.ref b), .val (.int (Int32.ofNat (o + (i + 1)))), .val (.ref d), .val (.int (Int32.ofNat (q + (i + 1)))), .val (.int (Int32.ofNat len)), .val (.int (Int32.ofNat (i + 1))), .val (.int (cv A (o + i)))] [])) := by
        have := c9
        rw [succ32, succ32, succ32] at this
        exact this
      exact ih (i + 1) (by omega) _ (Or.inr ⟨_, rfl, rfl⟩) T7 _ (by rw [copyLocs_step, ← List.append_assoc]; exact X7) (pl.trans p7) (fl.step (by omega) hlt (by simp)) c10
  obtain ⟨T9, B9, z9, X9, p9, f9, g9⟩ := loop len 0 (by omega) .unset (Or.inl rfl) s₁ B (by simpa [copyLocs] using X0) ⟨hB0.1, fun _ _ => rfl, rfl⟩ (Laid.zero _ _ _) c2
  have c11 : Steps p.tables e below (s₁.setTop (entryFrame m #[.ref b, .int (Int32.ofNat o), .ref d, .int (Int32.ofNat q), .int (Int32.ofNat len)] 7)) (T9.setTop (mkF m 46 #[.val (.ref b), .val (.int (Int32.ofNat (o + len))), .val (.ref d), .val (.int (Int32.ofNat (q + len))), .val (.int (Int32.ofNat len)), .val (.int (Int32.ofNat len)), z9] [.int (Int32.ofNat len)])) := g9.trans (by
    refine XS.iload X9.here hexec rfl (hb hbytes d3) rfl ?_
    refine XS.iload X9.here hexec rfl (hb hbytes d5) rfl ?_
    refine XS.icmpYes X9.here hexec rfl (pc0 := 7) rfl (hb hbytes d7) rfl (ii_ge_t (nlt32 (by omega) (Nat.le_refl _))) (by decide) rfl ?_
    refine XS.iload X9.here hexec rfl (hb hbytes d44) rfl ?_
    exact Steps.refl _)
  exact ⟨T9, some (.int (Int32.ofNat len)), _, _, _, X9, by simp, rfl, rfl, (fun h => by cases h), ⟨rfl, B9, p9.from hh0, f9⟩, fun fs hl => c11.trans (X9.ireturnOut hexec hret rfl (Or.inl rfl) (hb hbytes d46) hl)⟩
end Cmp5
namespace Cmp3
def yN : MethodName := ⟨"java/lang/StringUTF16", "compress", "([CII)[B"⟩
abbrev yB : ByteArray := jdk_52_method_16_code
theorem d0 : decode yB 0 = .ok (.iload_n 2, 1) := by decide +kernel
theorem d1 : decode yB 1 = .ok (.newarray .byte, 2) := by decide +kernel
theorem d3 : decode yB 3 = .ok (.astore_n 3, 1) := by decide +kernel
theorem d4 : decode yB 4 = .ok (.aload_n 0, 1) := by decide +kernel
theorem d5 : decode yB 5 = .ok (.iload_n 1, 1) := by decide +kernel
theorem d6 : decode yB 6 = .ok (.aload_n 3, 1) := by decide +kernel
theorem d7 : decode yB 7 = .ok (.iconst 0, 1) := by decide +kernel
theorem d8 : decode yB 8 = .ok (.iload_n 2, 1) := by decide +kernel
theorem d9 : decode yB 9 = .ok (.invokestatic 115, 3) := by decide +kernel
theorem d12 : decode yB 12 = .ok (.istore 4, 2) := by decide +kernel
theorem d14 : decode yB 14 = .ok (.iload 4, 2) := by decide +kernel
theorem d16 : decode yB 16 = .ok (.iload_n 2, 1) := by decide +kernel
theorem d17 : decode yB 17 = .ok (.if_icmp (.eq) 40, 3) := by decide +kernel
theorem d57 : decode yB 57 = .ok (.aload_n 3, 1) := by decide +kernel
theorem d58 : decode yB 58 = .ok (.areturn, 1) := by decide +kernel
def site : List Cond := [.arrayClass .byte, Cmp5.tab] ++ staticW U16 115 Cmp5.yN
def tab : Cond := tabOf yN yB 6 (some (.array .byte)) site
def P (b : Addr) (A : Cell) (o len : Nat) (args : Array Value) (s : State) : Prop := args = #[.ref b, .int (Int32.ofNat o), .int (Int32.ofNat len)] ∧ Ch b A s ∧ o + len ≤ A.slots.size ∧ len ≤ 536870912 ∧ ∀ i, i < len → ¬ 255 < cv A (o + i)
def E (b : Addr) (A : Cell) (o len : Nat) (r : Option Value) (s u : State) : Prop := NewArr .byte "[B" len (fun j => .int (lo8 (cv A (o + j)))) r s u ∧ u.heap.size = s.heap.size + 1
theorem law (l : Launch) (b : Addr) (A : Cell) (o len : Nat) : Law l yN 3 3 1 18 yB 6 (some (.array .byte)) site (P b A o len) (E b A o len) [] 1 len := by
  refine Law.of_walk (plainFor_of_name (by decide +kernel)) (by decide +kernel) (by decide +kernel) (by decide) (fun _ _ h => by rw [h.1]; rfl) (fun _ U U' hal hh h => ⟨h.1, h.2.1.mv hal hh, h.2.2⟩) (fun r U U' V V' h1 hal h2 h => ⟨NewArr.mv r U U' V V' h1 hal h2 h.1, by rw [h1, h2]; exact h.2⟩) ?_
  intro p e s m args below meth c s₁ X0 hexec hbytes hml hret hlk hnm hown hh0 W hP
  obtain ⟨rfl, hA, l1, l2, hp⟩ := hP
  have a31 := hA.1.2.2.2
  have c1 : Steps p.tables e below (s₁.setTop (entryFrame m #[.ref b, .int (Int32.ofNat o), .int (Int32.ofNat len)] 6)) (s₁.setTop (mkF m 0 #[.val (.ref b), .val (.int (Int32.ofNat o)), .val (.int (Int32.ofNat len)), .unset, .unset, .unset] [])) := entry rfl
  have c2 : Steps p.tables e below (s₁.setTop (entryFrame m #[.ref b, .int (Int32.ofNat o), .int (Int32.ofNat len)] 6)) (s₁.setTop (mkF m 1 #[.val (.ref b), .val (.int (Int32.ofNat o)), .val (.int (Int32.ofNat len)), .unset, .unset, .unset] [.int (Int32.ofNat len)])) := c1.trans (by
    refine XS.iloadN X0.here hexec rfl (hb hbytes d0) rfl ?_
    exact Steps.refl _)
  obtain ⟨T3, B3, X3, ba3, bs3, bv3, bh3, bf3, st3⟩ := X0.anew hexec (atype := .byte) (wk W (.arrayClass .byte)) rfl (by show len * 1 ≤ _; omega) (by omega) (g := (mkF m 1 #[.val (.ref b), .val (.int (Int32.ofNat o)), .val (.int (Int32.ofNat len)), .unset, .unset, .unset] [.int (Int32.ofNat len)])) rfl (hb hbytes d1) (rest := []) rfl (Nat.le_refl _) (by show 0 + len ≤ len; omega)
  rw [hh0] at ba3 st3
  have kp3 : XT.Kept s T3 := (XT.Kept.of_eq hh0).push bh3
  have hA3 := hA.keep X3.warmed.alike (kp3 _ _ hA.1.1)
  have hne : b ≠ s.heap.size := hA.1.ne
  have c4 : Steps p.tables e below (s₁.setTop (entryFrame m #[.ref b, .int (Int32.ofNat o), .int (Int32.ofNat len)] 6)) (T3.setTop (mkF m 3 #[.val (.ref b), .val (.int (Int32.ofNat o)), .val (.int (Int32.ofNat len)), .unset, .unset, .unset] [.ref s.heap.size])) := c2.trans (st3 _ (Steps.refl _))
  have c5 : Steps p.tables e below (s₁.setTop (entryFrame m #[.ref b, .int (Int32.ofNat o), .int (Int32.ofNat len)] 6)) (T3.setTop (mkF m 9 #[.val (.ref b), .val (.int (Int32.ofNat o)), .val (.int (Int32.ofNat len)), .val (.ref s.heap.size), .unset, .unset] [.int (Int32.ofNat len), .int 0, .ref s.heap.size, .int (Int32.ofNat o), .ref b])) := c4.trans (by
    refine XS.astoreN X3.here hexec rfl (hb hbytes d3) rfl rfl rfl ?_
    refine XS.aloadN X3.here hexec rfl (hb hbytes d4) rfl rfl ?_
    refine XS.iloadN X3.here hexec rfl (hb hbytes d5) rfl ?_
    refine XS.aloadN X3.here hexec rfl (hb hbytes d6) rfl rfl ?_
    refine iconstV X3.here hexec rfl 0 (hb hbytes d7) (by decide) ?_
    refine XS.iloadN X3.here hexec rfl (hb hbytes d8) rfl ?_
    exact Steps.refl _)
  obtain ⟨v6, T6, X6, E6, g6⟩ := X3.callS hexec (Cmp5.law l b A s.heap.size B3 o 0 len) hown (wks W (staticW U16 115 Cmp5.yN)) (wk W Cmp5.tab) (W := 0) (Nat.le_of_ble_eq_true rfl) (Nat.le_of_ble_eq_true rfl) (Nat.le_refl _) (by show 0 + len + 0 ≤ len; omega) (g := (mkF m 9 #[.val (.ref b), .val (.int (Int32.ofNat o)), .val (.int (Int32.ofNat len)), .val (.ref s.heap.size), .unset, .unset] [.int (Int32.ofNat len), .int (Int32.ofNat 0), .ref s.heap.size, .int (Int32.ofNat o), .ref b])) rfl (by rw [hml]; rfl) c5 (argsL := [.ref b, .int (Int32.ofNat o), .ref s.heap.size, .int (Int32.ofNat 0), .int (Int32.ofNat len)]) (rest := []) rfl rfl (by show 2 * 0 + 0 ≤ _; decide) (hb hbytes d9) (⟨rfl, hA3, ba3, hne, l1, by rw [bs3]; simp, hp⟩)
  obtain ⟨rfl, B6, p6, f6⟩ := E6
  have c7 : Steps p.tables e below (s₁.setTop (entryFrame m #[.ref b, .int (Int32.ofNat o), .int (Int32.ofNat len)] 6)) (T6.setTop (mkF m 12 #[.val (.ref b), .val (.int (Int32.ofNat o)), .val (.int (Int32.ofNat len)), .val (.ref s.heap.size), .unset, .unset] [.int (Int32.ofNat len)])) := g6
  have c8 : Steps p.tables e below (s₁.setTop (entryFrame m #[.ref b, .int (Int32.ofNat o), .int (Int32.ofNat len)] 6)) (T6.setTop (mkF m 58 #[.val (.ref b), .val (.int (Int32.ofNat o)), .val (.int (Int32.ofNat len)), .val (.ref s.heap.size), .val (.int (Int32.ofNat len)), .unset] [.ref s.heap.size])) := c7.trans (by
    refine XS.istore X6.here hexec rfl (hb hbytes d12) rfl rfl ?_
    refine XS.iload X6.here hexec rfl (hb hbytes d14) rfl ?_
    refine XS.iloadN X6.here hexec rfl (hb hbytes d16) rfl ?_
    refine XS.icmpYes X6.here hexec rfl (pc0 := 17) rfl (hb hbytes d17) rfl (ii_eq_t rfl) (by decide) rfl ?_
    refine XS.aloadN X6.here hexec rfl (hb hbytes d57) rfl rfl ?_
    exact Steps.refl _)
  have X8 := X6.wide (L' := []) (cells' := 1) (slots' := len) (fun x hx hlt => by
    simp only [List.nil_append, copyLocs, List.mem_map, List.mem_range] at hx
    obtain ⟨i, -, rfl⟩ := hx
    exact absurd hlt (Nat.lt_irrefl _)) (Nat.le_refl _) (by omega)
  exact ⟨T6, some (.ref s.heap.size), _, _, _, X8, rfl, rfl, rfl, (fun h => by cases h), ⟨⟨rfl, B6, ba3.like (X3.warmed.alike.symm.trans X6.warmed.alike) p6.1 f6.1 f6.2.1 f6.2.2.1, f6.2.1.trans bv3, by rw [X6.warmed.alike.findClass, f6.1]; exact bf3, by rw [f6.2.2.1, bs3]; simp, fun j hj => by rw [f6.2.2.2 j, if_pos (by omega)]; rfl, kp3.put p6 (Nat.le_refl _)⟩, by rw [p6.2.2, bh3, hh0]; simp⟩, fun fs hl => c8.trans (X8.areturnOut hexec rfl hret rfl (hb hbytes d58) hl)⟩
end Cmp3
namespace CodL
def yN : MethodName := ⟨"java/lang/StringUTF16", "coderFromArrayLen", "([BI)B"⟩
abbrev yB : ByteArray := jdk_52_method_15_code
theorem d0 : decode yB 0 = .ok (.iload_n 1, 1) := by decide +kernel
theorem d1 : decode yB 1 = .ok (.aload_n 0, 1) := by decide +kernel
theorem d2 : decode yB 2 = .ok (.arraylength, 1) := by decide +kernel
theorem d3 : decode yB 3 = .ok (.isub, 1) := by decide +kernel
theorem d4 : decode yB 4 = .ok (.bipush 31, 2) := by decide +kernel
theorem d6 : decode yB 6 = .ok (.iushr, 1) := by decide +kernel
theorem d7 : decode yB 7 = .ok (.i2b, 1) := by decide +kernel
theorem d8 : decode yB 8 = .ok (.ireturn, 1) := by decide +kernel
def site : List Cond := []
def tab : Cond := tabOf yN yB 2 (some .byte) site
def P (d : Addr) (B : Cell) (args : Array Value) (s : State) : Prop := args = #[.ref d, .int (Int32.ofNat B.slots.size)] ∧ Arr .byte d B s
def E (r : Option Value) (s u : State) : Prop := XT.PureE (some (.int 0)) r s u
theorem law (l : Launch) (d : Addr) (B : Cell) : Law l yN 2 2 0 0 yB 2 (some .byte) site (P d B) E [] 0 0 := by
  refine Law.of_walk (plainFor_of_name (by decide +kernel)) (by decide +kernel) (by decide +kernel) (by decide) (fun _ _ h => by rw [h.1]; rfl) (fun _ U U' hal hh h => ⟨h.1, h.2.mv hal hh⟩) (fun r U U' V V' h1 hal h2 h => XT.PureE.mv r U U' V V' h1 hal h2 h) ?_
  intro p e s m args below meth c s₁ X0 hexec hbytes hml hret hlk hnm hown hh0 W hP
  obtain ⟨rfl, hB⟩ := hP
  have hB0 := hB.mv X0.warmed.alike hh0
  have c1 : Steps p.tables e below (s₁.setTop (entryFrame m #[.ref d, .int (Int32.ofNat B.slots.size)] 2)) (s₁.setTop (mkF m 0 #[.val (.ref d), .val (.int (Int32.ofNat B.slots.size))] [])) := entry rfl
  have c2 : Steps p.tables e below (s₁.setTop (entryFrame m #[.ref d, .int (Int32.ofNat B.slots.size)] 2)) (s₁.setTop (mkF m 2 #[.val (.ref d), .val (.int (Int32.ofNat B.slots.size))] [.ref d, .int (Int32.ofNat B.slots.size)])) := c1.trans (by
    refine XS.iloadN X0.here hexec rfl (hb hbytes d0) rfl ?_
    refine XS.aloadN X0.here hexec rfl (hb hbytes d1) rfl rfl ?_
    exact Steps.refl _)
  have c3 : Steps p.tables e below (s₁.setTop (entryFrame m #[.ref d, .int (Int32.ofNat B.slots.size)] 2)) (s₁.setTop (mkF m 8 #[.val (.ref d), .val (.int (Int32.ofNat B.slots.size))] [.int (lo8 (ushr (Int32.ofNat B.slots.size - Int32.ofNat B.slots.size) 31))])) := c2.trans (by
    refine X0.alen hexec hB0 rfl rfl (hb hbytes d2) ?_
    refine XS.isub X0.here hexec rfl (hb hbytes d3) rfl ?_
    refine bipushV X0.here hexec rfl 31 (hb hbytes d4) (by decide) ?_
    refine iushr X0.here hexec rfl (hb hbytes d6) rfl ?_
    refine i2b X0.here hexec rfl (hb hbytes d7) rfl ?_
    exact Steps.refl _)
  have e0 : lo8 (ushr (Int32.ofNat B.slots.size - Int32.ofNat B.slots.size) 31) = 0 := by rw [Int32.sub_self]; decide
  rw [e0] at c3
  exact ⟨s₁, some (.int 0), _, _, _, X0, rfl, rfl, rfl, (fun h => by cases h), ⟨rfl, hh0⟩, fun fs hl => c3.trans (X0.ireturnOut hexec hret rfl (Or.inr (Or.inr (Or.inl rfl))) (hb hbytes d8) hl)⟩
end CodL
def Got (a : Addr) (D : Cell) (fV fC : Field) (A : Cell) (o len : Nat) (r : Option Value) (s u : State) : Prop := r = none ∧ ∃ D' V : Cell, Blank "java/lang/String" a D' u ∧ Same D D' [fV.slot, fC.slot] ∧ D'.slots[fV.slot]? = some (.ref s.heap.size) ∧ D'.slots[fC.slot]? = some (.int 0) ∧ Arr .byte s.heap.size V u ∧ V.vm = .none ∧ u.vm.findClass "[B" = some V.cls ∧ V.slots.size = len ∧ (∀ j, j < len → V.slots[j]? = some (.int (lo8 (cv A (o + j))))) ∧ (∀ (y : Addr) (c : Cell), y ≠ a → s.heap[y]? = some c → u.heap[y]? = some c) ∧ u.heap.size = s.heap.size + 1
theorem Got.mv {a : Addr} {D A : Cell} {fV fC : Field} {o len : Nat} : ∀ r (U U' V V' : State), U'.heap = U.heap → V.vm.Alike V'.vm → V'.heap = V.heap → Got a D fV fC A o len r U V → Got a D fV fC A o len r U' V' :=
  fun r U U' V V' h1 hal h2 ⟨e0, D', X, a1, a2, a3, a4, a5, a6, a7, a8, a9, a10, a11⟩ => ⟨e0, D', X, a1.mv hal h2, a2, by rw [h1]; exact a3, a4, by rw [h1]; exact a5.mv hal h2, a6, by rw [hal.findClass]; exact a7, a8, a9, by rw [h1, h2]; exact a10, by rw [h1, h2]; exact a11⟩
namespace New4
def yN : MethodName := ⟨"java/lang/String", "<init>", "([CIILjava/lang/Void;)V"⟩
abbrev yB : ByteArray := jdk_42_method_149_code
theorem d0 : decode yB 0 = .ok (.aload_n 0, 1) := by decide +kernel
theorem d1 : decode yB 1 = .ok (.invokespecial 1, 3) := by decide +kernel
theorem d4 : decode yB 4 = .ok (.iload_n 3, 1) := by decide +kernel
theorem d5 : decode yB 5 = .ok (.ifCond (.ne) 22, 3) := by decide +kernel
theorem d27 : decode yB 27 = .ok (.getstatic 38, 3) := by decide +kernel
theorem d30 : decode yB 30 = .ok (.ifCond (.eq) 28, 3) := by decide +kernel
theorem d33 : decode yB 33 = .ok (.aload_n 1, 1) := by decide +kernel
theorem d34 : decode yB 34 = .ok (.iload_n 2, 1) := by decide +kernel
theorem d35 : decode yB 35 = .ok (.iload_n 3, 1) := by decide +kernel
theorem d36 : decode yB 36 = .ok (.invokestatic 177, 3) := by decide +kernel
theorem d39 : decode yB 39 = .ok (.astore 5, 2) := by decide +kernel
theorem d41 : decode yB 41 = .ok (.aload_n 0, 1) := by decide +kernel
theorem d42 : decode yB 42 = .ok (.aload 5, 2) := by decide +kernel
theorem d44 : decode yB 44 = .ok (.iload_n 3, 1) := by decide +kernel
theorem d45 : decode yB 45 = .ok (.invokestatic 47, 3) := by decide +kernel
theorem d48 : decode yB 48 = .ok (.putfield 15, 3) := by decide +kernel
theorem d51 : decode yB 51 = .ok (.aload_n 0, 1) := by decide +kernel
theorem d52 : decode yB 52 = .ok (.aload 5, 2) := by decide +kernel
theorem d54 : decode yB 54 = .ok (.putfield 9, 3) := by decide +kernel
theorem d57 : decode yB 57 = .ok (.return_, 1) := by decide +kernel
def site : List Cond := [.fieldLink "java/lang/String" 38 "java/lang/String" "COMPACT_STRINGS" "Z", Cmp3.tab, CodL.tab, .laysFinal "java/lang/String" "java/lang/String" "value" "[B", .fieldLink "java/lang/String" 9 "java/lang/String" "value" "[B", .laysFinal "java/lang/String" "java/lang/String" "coder" "B", .fieldLink "java/lang/String" 15 "java/lang/String" "coder" "B"] ++ objW "java/lang/String" 1 ++ staticW "java/lang/String" 177 Cmp3.yN ++ staticW "java/lang/String" 47 CodL.yN
def tab : Cond := tabOf yN yB 6 none site
def P (a : Addr) (D : Cell) (fV fC : Field) (b : Addr) (A : Cell) (z : Int32) (o len : Nat) (args : Array Value) (s : State) : Prop := args = #[.ref a, .ref b, .int (Int32.ofNat o), .int (Int32.ofNat len), .null] ∧ Blank "java/lang/String" a D s ∧ Found "java/lang/String" "value" "[B" fV s ∧ Found "java/lang/String" "coder" "B" fC s ∧ Ch b A s ∧ StaticIs s "java/lang/String" "COMPACT_STRINGS" "Z" (.int z) ∧ ¬ z = 0 ∧ 0 < len ∧ o + len ≤ A.slots.size ∧ len ≤ 536870912 ∧ ∀ i, i < len → ¬ 255 < cv A (o + i)
def E (a : Addr) (D : Cell) (fV fC : Field) (A : Cell) (o len : Nat) (r : Option Value) (s u : State) : Prop := Got a D fV fC A o len r s u
theorem law (l : Launch) (a : Addr) (D : Cell) (fV fC : Field) (b : Addr) (A : Cell) (z : Int32) (o len : Nat) : Law l yN 5 4 2 35 yB 6 none site (P a D fV fC b A z o len) (E a D fV fC A o len) [⟨a, fC.slot⟩, ⟨a, fV.slot⟩] 1 len := by
  refine Law.of_walk (plainFor_of_name (by decide +kernel)) (by decide +kernel) (by decide +kernel) (by decide) (fun _ _ h => by rw [h.1]; rfl) (fun _ U U' hal hh h => ⟨h.1, h.2.1.mv hal hh, h.2.2.1.al hal, h.2.2.2.1.al hal, h.2.2.2.2.1.mv hal hh, h.2.2.2.2.2.1.there hal hh, h.2.2.2.2.2.2⟩) (fun r U U' V V' h1 hal h2 h => Got.mv r U U' V V' h1 hal h2 h) ?_
  intro p e s m args below meth c s₁ X0 hexec hbytes hml hret hlk hnm hown hh0 W hP
  obtain ⟨rfl, hB, f1, f2, hA, s1, hz, l0, l1, l2, hp⟩ := hP
  have a31 := hA.1.2.2.2
  have c1 : Steps p.tables e below (s₁.setTop (entryFrame m #[.ref a, .ref b, .int (Int32.ofNat o), .int (Int32.ofNat len), .null] 6)) (s₁.setTop (mkF m 0 #[.val (.ref a), .val (.ref b), .val (.int (Int32.ofNat o)), .val (.int (Int32.ofNat len)), .val .null, .unset] [])) := entry rfl
  have c2 : Steps p.tables e below (s₁.setTop (entryFrame m #[.ref a, .ref b, .int (Int32.ofNat o), .int (Int32.ofNat len), .null] 6)) (s₁.setTop (mkF m 1 #[.val (.ref a), .val (.ref b), .val (.int (Int32.ofNat o)), .val (.int (Int32.ofNat len)), .val .null, .unset] [.ref a])) := c1.trans (by
    refine XS.aloadN X0.here hexec rfl (hb hbytes d0) rfl rfl ?_
    exact Steps.refl _)
  obtain ⟨T3, X3, q3, st3⟩ := X0.oinit hexec hown (wks W (objW "java/lang/String" 1)) (g := (mkF m 1 #[.val (.ref a), .val (.ref b), .val (.int (Int32.ofNat o)), .val (.int (Int32.ofNat len)), .val .null, .unset] [.ref a])) rfl (by rw [hml]; rfl) (rest := []) rfl (hb hbytes d1) (W := 0) (by show 2 * 0 + 0 ≤ _; decide) (Nat.le_of_ble_eq_true rfl) (Nat.le_of_ble_eq_true rfl)
  have hh3 := q3.trans hh0
  have c4 : Steps p.tables e below (s₁.setTop (entryFrame m #[.ref a, .ref b, .int (Int32.ofNat o), .int (Int32.ofNat len), .null] 6)) (T3.setTop (mkF m 27 #[.val (.ref a), .val (.ref b), .val (.int (Int32.ofNat o)), .val (.int (Int32.ofNat len)), .val .null, .unset] [])) := (c2.trans (st3 _ (Steps.refl _))).trans (by
    refine XS.iloadN X3.here hexec rfl (hb hbytes d4) rfl ?_
    refine XS.ifYes X3.here hexec rfl (pc0 := 5) rfl (hb hbytes d5) rfl (i0_ne_t (nz32 (by omega) l0)) (by decide) rfl ?_
    exact Steps.refl _)
  obtain ⟨T5, X5, q5, st5⟩ := X3.sget hexec hown (wk W (.fieldLink "java/lang/String" 38 "java/lang/String" "COMPACT_STRINGS" "Z")) s1 (fun _ _ h => by rw [hh3]; exact h) (g := (mkF m 27 #[.val (.ref a), .val (.ref b), .val (.int (Int32.ofNat o)), .val (.int (Int32.ofNat len)), .val .null, .unset] [])) rfl (hb hbytes d27)
  have hh5 := q5.trans hh3
  have c6 : Steps p.tables e below (s₁.setTop (entryFrame m #[.ref a, .ref b, .int (Int32.ofNat o), .int (Int32.ofNat len), .null] 6)) (T5.setTop (mkF m 30 #[.val (.ref a), .val (.ref b), .val (.int (Int32.ofNat o)), .val (.int (Int32.ofNat len)), .val .null, .unset] [.int z])) := c4.trans (st5 _ (Steps.refl _))
  have c7 : Steps p.tables e below (s₁.setTop (entryFrame m #[.ref a, .ref b, .int (Int32.ofNat o), .int (Int32.ofNat len), .null] 6)) (T5.setTop (mkF m 36 #[.val (.ref a), .val (.ref b), .val (.int (Int32.ofNat o)), .val (.int (Int32.ofNat len)), .val .null, .unset] [.int (Int32.ofNat len), .int (Int32.ofNat o), .ref b])) := c6.trans (by
    refine XS.ifNo X5.here hexec rfl (hb hbytes d30) rfl (i0_eq_f hz) ?_
    refine XS.aloadN X5.here hexec rfl (hb hbytes d33) rfl rfl ?_
    refine XS.iloadN X5.here hexec rfl (hb hbytes d34) rfl ?_
    refine XS.iloadN X5.here hexec rfl (hb hbytes d35) rfl ?_
    exact Steps.refl _)
  obtain ⟨v8, T8, X8, E8, g8⟩ := X5.callS hexec (Cmp3.law l b A o len) hown (wks W (staticW "java/lang/String" 177 Cmp3.yN)) (wk W Cmp3.tab) (W := 0) (Nat.le_of_ble_eq_true rfl) (Nat.le_of_ble_eq_true rfl) (Nat.le_refl _) (by show 0 + len ≤ len; omega) (g := (mkF m 36 #[.val (.ref a), .val (.ref b), .val (.int (Int32.ofNat o)), .val (.int (Int32.ofNat len)), .val .null, .unset] [.int (Int32.ofNat len), .int (Int32.ofNat o), .ref b])) rfl (by rw [hml]; rfl) c7 (argsL := [.ref b, .int (Int32.ofNat o), .int (Int32.ofNat len)]) (rest := []) rfl rfl (by show 2 * 0 + 0 ≤ _; decide) (hb hbytes d36) (⟨rfl, hA.mv X5.warmed.alike hh5, l1, l2, hp⟩)
  obtain ⟨e8, z8⟩ := E8
  obtain ⟨rfl, N, n1, n2, n3, n4, n5, n6⟩ := NewArr.mv _ T5 s _ _ hh5.symm (Vm.Alike.refl _) rfl e8
  rw [hh5] at z8
  have hB1 := hB.keep X8.warmed.alike (n6 _ _ hB.1)
  have hne : s.heap.size ≠ a := (Nat.ne_of_lt (Array.getElem?_eq_some_iff.mp hB.1).1).symm
  have c9 : Steps p.tables e below (s₁.setTop (entryFrame m #[.ref a, .ref b, .int (Int32.ofNat o), .int (Int32.ofNat len), .null] 6)) (T8.setTop (mkF m 39 #[.val (.ref a), .val (.ref b), .val (.int (Int32.ofNat o)), .val (.int (Int32.ofNat len)), .val .null, .unset] [.ref s.heap.size])) := g8
  have c10 : Steps p.tables e below (s₁.setTop (entryFrame m #[.ref a, .ref b, .int (Int32.ofNat o), .int (Int32.ofNat len), .null] 6)) (T8.setTop (mkF m 45 #[.val (.ref a), .val (.ref b), .val (.int (Int32.ofNat o)), .val (.int (Int32.ofNat len)), .val .null, .val (.ref s.heap.size)] [.int (Int32.ofNat N.slots.size), .ref s.heap.size, .ref a])) := by
    have hc : Steps p.tables e below (s₁.setTop (entryFrame m #[.ref a, .ref b, .int (Int32.ofNat o), .int (Int32.ofNat len), .null] 6)) (T8.setTop (mkF m 45 #[.val (.ref a), .val (.ref b), .val (.int (Int32.ofNat o)), .val (.int (Int32.ofNat len)), .val .null, .val (.ref s.heap.size)] [.int (Int32.ofNat len), .ref s.heap.size, .ref a])) := c9.trans (by
      refine XS.astore X8.here hexec rfl (hb hbytes d39) rfl rfl rfl ?_
      refine XS.aloadN X8.here hexec rfl (hb hbytes d41) rfl rfl ?_
      refine XS.aload X8.here hexec rfl (hb hbytes d42) rfl rfl ?_
      refine XS.iloadN X8.here hexec rfl (hb hbytes d44) rfl ?_
      exact Steps.refl _)
    rw [n4]; exact hc
  obtain ⟨v11, T11, X11, E11, g11⟩ := X8.callS hexec (CodL.law l s.heap.size N) hown (wks W (staticW "java/lang/String" 47 CodL.yN)) (wk W CodL.tab) (W := 1) (Nat.le_of_ble_eq_true rfl) (Nat.le_of_ble_eq_true rfl) (Nat.le_refl _) (by show 0 + len + 0 ≤ len; omega) (g := (mkF m 45 #[.val (.ref a), .val (.ref b), .val (.int (Int32.ofNat o)), .val (.int (Int32.ofNat len)), .val .null, .val (.ref s.heap.size)] [.int (Int32.ofNat N.slots.size), .ref s.heap.size, .ref a])) rfl (by rw [hml]; rfl) c10 (argsL := [.ref s.heap.size, .int (Int32.ofNat N.slots.size)]) (rest := [.ref a]) rfl rfl (by show 2 * 0 + (1 + 0) ≤ _; decide) (hb hbytes d45) (⟨rfl, n1⟩)
  obtain ⟨rfl, q11⟩ := E11
  have hB11 := hB1.mv (X8.warmed.alike.symm.trans X11.warmed.alike) q11
  have c12 : Steps p.tables e below (s₁.setTop (entryFrame m #[.ref a, .ref b, .int (Int32.ofNat o), .int (Int32.ofNat len), .null] 6)) (T11.setTop (mkF m 48 #[.val (.ref a), .val (.ref b), .val (.int (Int32.ofNat o)), .val (.int (Int32.ofNat len)), .val .null, .val (.ref s.heap.size)] [.int 0, .ref a])) := g11
  obtain ⟨T13, X13, p13, bl13, sl13, st13⟩ := X11.finit hexec hown (wk W (.fieldLink "java/lang/String" 15 "java/lang/String" "coder" "B")) (Or.inr ⟨_, (wk W (.laysFinal "java/lang/String" "java/lang/String" "coder" "B"))⟩) (Or.inl ⟨rfl, hnm⟩) f2 (Or.inl rfl) hB11 (t := .byte) (by decide +kernel) rfl (g := (mkF m 48 #[.val (.ref a), .val (.ref b), .val (.int (Int32.ofNat o)), .val (.int (Int32.ofNat len)), .val .null, .val (.ref s.heap.size)] [.int 0, .ref a])) rfl (rest := []) rfl (hb hbytes d48)
  have c14 : Steps p.tables e below (s₁.setTop (entryFrame m #[.ref a, .ref b, .int (Int32.ofNat o), .int (Int32.ofNat len), .null] 6)) (T13.setTop (mkF m 54 #[.val (.ref a), .val (.ref b), .val (.int (Int32.ofNat o)), .val (.int (Int32.ofNat len)), .val .null, .val (.ref s.heap.size)] [.ref s.heap.size, .ref a])) := (c12.trans (st13 _ (Steps.refl _))).trans (by
    refine XS.aloadN X13.here hexec rfl (hb hbytes d51) rfl rfl ?_
    refine XS.aload X13.here hexec rfl (hb hbytes d52) rfl rfl ?_
    exact Steps.refl _)
  obtain ⟨T15, X15, p15, bl15, sl15, st15⟩ := X13.finit hexec hown (wk W (.fieldLink "java/lang/String" 9 "java/lang/String" "value" "[B")) (Or.inr ⟨_, (wk W (.laysFinal "java/lang/String" "java/lang/String" "value" "[B"))⟩) (Or.inl ⟨rfl, hnm⟩) f1 (Or.inl rfl) bl13 (t := (.array .byte)) (by decide +kernel) rfl (g := (mkF m 54 #[.val (.ref a), .val (.ref b), .val (.int (Int32.ofNat o)), .val (.int (Int32.ofNat len)), .val .null, .val (.ref s.heap.size)] [.ref s.heap.size, .ref a])) rfl (rest := []) rfl (hb hbytes d54)
  have c16 : Steps p.tables e below (s₁.setTop (entryFrame m #[.ref a, .ref b, .int (Int32.ofNat o), .int (Int32.ofNat len), .null] 6)) (T15.setTop (mkF m 57 #[.val (.ref a), .val (.ref b), .val (.int (Int32.ofNat o)), .val (.int (Int32.ofNat len)), .val .null, .val (.ref s.heap.size)] [])) := c14.trans (st15 _ (Steps.refl _))
  have ap := apart (Or.inr ⟨_, (wk W (.laysFinal "java/lang/String" "java/lang/String" "value" "[B"))⟩) (Or.inr ⟨_, (wk W (.laysFinal "java/lang/String" "java/lang/String" "coder" "B"))⟩) f1 f2 (t₁ := .array .byte) (t₂ := .byte) (by decide +kernel) (by decide +kernel) (by decide)
  have al := X8.warmed.alike.symm.trans X15.warmed.alike
  have n7 : T11.heap[s.heap.size]? = some N := by rw [q11]; exact n1.1
  exact ⟨T15, none, _, _, _, X15, by simp, rfl, by omega, (fun _ => rfl), ⟨rfl, _, N, bl15, ((Same.refl D _).set _ (by simp)).set _ (by simp), sl15, (Cell.slots_setSlot_ne _ ap).trans sl13, n1.keep al (p15.other hne (p13.other hne n7)), n2, by rw [al.findClass]; exact n3, n4, n5, fun y c h1 h2 => p15.other h1 (p13.other h1 (by rw [q11]; exact n6 y c h2)), by rw [p15.2.2, p13.2.2, q11]; exact z8⟩, fun fs hl => c16.trans (X15.returnOut hexec hret (hb hbytes d57) hl)⟩
end New4
namespace New1
def yN : MethodName := ⟨"java/lang/String", "<init>", "([C)V"⟩
abbrev yB : ByteArray := jdk_42_method_3_code
theorem d0 : decode yB 0 = .ok (.aload_n 0, 1) := by decide +kernel
theorem d1 : decode yB 1 = .ok (.aload_n 1, 1) := by decide +kernel
theorem d2 : decode yB 2 = .ok (.iconst 0, 1) := by decide +kernel
theorem d3 : decode yB 3 = .ok (.aload_n 1, 1) := by decide +kernel
theorem d4 : decode yB 4 = .ok (.arraylength, 1) := by decide +kernel
theorem d5 : decode yB 5 = .ok (.aconst_null, 1) := by decide +kernel
theorem d6 : decode yB 6 = .ok (.invokespecial 27, 3) := by decide +kernel
theorem d9 : decode yB 9 = .ok (.return_, 1) := by decide +kernel
def site : List Cond := [New4.tab] ++ initW "java/lang/String" 27 New4.yN
def tab : Cond := tabOf yN yB 2 none site
def P (a : Addr) (D : Cell) (fV fC : Field) (b : Addr) (A : Cell) (z : Int32) (args : Array Value) (s : State) : Prop := args = #[.ref a, .ref b] ∧ Blank "java/lang/String" a D s ∧ Found "java/lang/String" "value" "[B" fV s ∧ Found "java/lang/String" "coder" "B" fC s ∧ Ch b A s ∧ StaticIs s "java/lang/String" "COMPACT_STRINGS" "Z" (.int z) ∧ ¬ z = 0 ∧ 0 < A.slots.size ∧ A.slots.size ≤ 536870912 ∧ ∀ i, i < A.slots.size → ¬ 255 < cv A i
def E (a : Addr) (D : Cell) (fV fC : Field) (A : Cell) (r : Option Value) (s u : State) : Prop := Got a D fV fC A 0 A.slots.size r s u
theorem law (l : Launch) (a : Addr) (D : Cell) (fV fC : Field) (b : Addr) (A : Cell) (z : Int32) : Law l yN 2 1 3 52 yB 2 none site (P a D fV fC b A z) (E a D fV fC A) [⟨a, fC.slot⟩, ⟨a, fV.slot⟩] 1 A.slots.size := by
  refine Law.of_walk (plainFor_of_name (by decide +kernel)) (by decide +kernel) (by decide +kernel) (by decide) (fun _ _ h => by rw [h.1]; rfl) (fun _ U U' hal hh h => ⟨h.1, h.2.1.mv hal hh, h.2.2.1.al hal, h.2.2.2.1.al hal, h.2.2.2.2.1.mv hal hh, h.2.2.2.2.2.1.there hal hh, h.2.2.2.2.2.2⟩) (fun r U U' V V' h1 hal h2 h => Got.mv r U U' V V' h1 hal h2 h) ?_
  intro p e s m args below meth c s₁ X0 hexec hbytes hml hret hlk hnm hown hh0 W hP
  obtain ⟨rfl, hB, f1, f2, hA, s1, hz, l0, l2, hp⟩ := hP
  have c1 : Steps p.tables e below (s₁.setTop (entryFrame m #[.ref a, .ref b] 2)) (s₁.setTop (mkF m 0 #[.val (.ref a), .val (.ref b)] [])) := entry rfl
  have c2 : Steps p.tables e below (s₁.setTop (entryFrame m #[.ref a, .ref b] 2)) (s₁.setTop (mkF m 6 #[.val (.ref a), .val (.ref b)] [.null, .int (Int32.ofNat A.slots.size), .int 0, .ref b, .ref a])) := c1.trans (by
    refine XS.aloadN X0.here hexec rfl (hb hbytes d0) rfl rfl ?_
    refine XS.aloadN X0.here hexec rfl (hb hbytes d1) rfl rfl ?_
    refine iconstV X0.here hexec rfl 0 (hb hbytes d2) (by decide) ?_
    refine XS.aloadN X0.here hexec rfl (hb hbytes d3) rfl rfl ?_
    refine X0.alen hexec (hA.1.mv X0.warmed.alike hh0) rfl rfl (hb hbytes d4) ?_
    refine XS.aconstNull X0.here hexec rfl (hb hbytes d5) ?_
    exact Steps.refl _)
  obtain ⟨v3, T3, X3, E3, g3⟩ := X0.callN hexec (New4.law l a D fV fC b A z 0 A.slots.size) rfl hown (wks W (initW "java/lang/String" 27 New4.yN)) (W New4.tab (by simp only [site, List.mem_cons, List.mem_append, true_or, or_true])) (W := 0) (Nat.le_of_ble_eq_true rfl) (Nat.le_of_ble_eq_true rfl) (Nat.le_refl _) (by show 0 + A.slots.size ≤ A.slots.size; omega) (g := (mkF m 6 #[.val (.ref a), .val (.ref b)] [.null, .int (Int32.ofNat A.slots.size), .int (Int32.ofNat 0), .ref b, .ref a])) rfl (by rw [hml]; rfl) c2 (argsL := [.ref b, .int (Int32.ofNat 0), .int (Int32.ofNat A.slots.size), .null]) (rest := []) rfl rfl (by show 2 * 0 + 0 ≤ _; decide) (hb hbytes d6) (⟨rfl, hB.mv X0.warmed.alike hh0, f1.al X0.warmed.alike, f2.al X0.warmed.alike, hA.mv X0.warmed.alike hh0, s1.there X0.warmed.alike hh0, hz, l0, by omega, l2, fun i hi => by rw [Nat.zero_add]; exact hp i hi⟩)
  have e0 := Got.mv _ s₁ s _ _ hh0.symm (Vm.Alike.refl _) rfl E3
  obtain rfl := e0.1
  have c4 : Steps p.tables e below (s₁.setTop (entryFrame m #[.ref a, .ref b] 2)) (T3.setTop (mkF m 9 #[.val (.ref a), .val (.ref b)] [])) := g3
  exact ⟨T3, none, _, _, _, X3, by simp, rfl, by omega, (fun _ => rfl), e0, fun fs hl => c4.trans (X3.returnOut hexec hret (hb hbytes d9) hl)⟩
theorem pays {l : Launch} {R : Room} {p : Program} {e : Env} {below : List Frame} {s : State} {sargs : Array Value} {len W : Nat} (a : Addr) (D : Cell) (fV fC : Field) (b : Addr) (A : Cell) (z : Int32) (htab : tab.before sargs s = true) (hfr : 4 ≤ R.frames) (hlo : W + 65 ≤ R.locals) :
    Back l R p e below s sargs yN len W (fun A₁ a₁ => A₁.cells + 1 ≤ R.cells ∧ A₁.slots + A.slots.size ≤ R.slots ∧ P a D fV fC b A z a₁ A₁.U) (fun A₁ _ v₁ B₁ => E a D fV fC A v₁ A₁.U B₁.U ∧ B₁.locs = A₁.locs ++ [⟨a, fC.slot⟩, ⟨a, fV.slot⟩] ∧ B₁.cells = A₁.cells + 1 ∧ B₁.slots = A₁.slots + A.slots.size) :=
  (law l a D fV fC b A z).pays htab hfr (by omega)
end New1
theorem lo8_mask {x : Int32} (h0 : ¬ x < 0) (h1 : ¬ 255 < x) : lo8 x &&& 255 = x := by
  have t : ∀ k : Fin 256, lo8 (Int32.ofNat k.val) &&& 255 = Int32.ofNat k.val := by decide +kernel
  rw [Int32.lt_iff_toInt_lt] at h0 h1
  have e0 : (0 : Int32).toInt = 0 := rfl
  have e1 : (255 : Int32).toInt = 255 := rfl
  obtain ⟨k, hk⟩ : ∃ k : Nat, x.toInt = k := ⟨x.toInt.toNat, by omega⟩
  have hx : x = Int32.ofNat k := Int32.toInt_inj.mp (by rw [hk, Int32.toInt_ofNat_small (by omega)])
  rw [hx]
  exact t ⟨k, by omega⟩
end StrChars
namespace StrChars.Road
open Jvm Sem ClassFile Op Lib Jvm.Stand Jvm.Free Jvm.Free.XT
open Jvm.Lib.Cold (StaticIs)
abbrev ST : String := "java/lang/String"
abbrev words : List Jvm.Cond := [.code New1.yN New1.yB 2 none, .initialized ST, .methodLink ST 27 New4.yN, .instanceMethod New4.yN,
  .code New4.yN New4.yB 6 none, .fieldLink ST 38 ST "COMPACT_STRINGS" "Z", .laysFinal ST ST "value" "[B", .fieldLink ST 9 ST "value" "[B", .laysFinal ST ST "coder" "B", .fieldLink ST 15 ST "coder" "B",
  .methodLink ST 1 Lib.objectInit, .instanceMethod Lib.objectInit, .code Lib.objectInit ⟨#[0xb1]⟩ 1 none, .methodLink ST 177 Cmp3.yN, .static Cmp3.yN, .methodLink ST 47 CodL.yN, .static CodL.yN,
  .code Cmp3.yN Cmp3.yB 6 (some (.array .byte)), .initialized U16, .arrayClass .byte, .methodLink U16 115 Cmp5.yN, .static Cmp5.yN, .code Cmp5.yN Cmp5.yB 7 (some .int), .code CodL.yN CodL.yB 2 (some .byte)]
theorem tab_of {a : Array Value} {s : State} (h : ∀ w ∈ words, w.before a s = true) : New1.tab.before a s = true := by
  have h5 : Cmp5.tab.before a s = true := unparts (wk h (.code Cmp5.yN Cmp5.yB 7 (some .int))) (wks h (.initialized Cmp5.yN.cls :: Cmp5.site))
  have hc : CodL.tab.before a s = true := unparts (wk h (.code CodL.yN CodL.yB 2 (some .byte))) (wks h (.initialized CodL.yN.cls :: CodL.site))
  have q5 : ∀ w ∈ Cmp5.tab :: words, w.before a s = true := fun w hw => (List.mem_cons.mp hw).elim (fun e => e ▸ h5) (h w)
  have h3 : Cmp3.tab.before a s = true := unparts (wk q5 (.code Cmp3.yN Cmp3.yB 6 (some (.array .byte)))) (wks q5 (.initialized Cmp3.yN.cls :: Cmp3.site))
  have q3 : ∀ w ∈ Cmp3.tab :: CodL.tab :: words, w.before a s = true := fun w hw => (List.mem_cons.mp hw).elim (fun e => e ▸ h3) fun hw => (List.mem_cons.mp hw).elim (fun e => e ▸ hc) (h w)
  have h4 : New4.tab.before a s = true := unparts (wk q3 (.code New4.yN New4.yB 6 none)) (wks q3 (.initialized New4.yN.cls :: New4.site))
  have q4 : ∀ w ∈ New4.tab :: words, w.before a s = true := fun w hw => (List.mem_cons.mp hw).elim (fun e => e ▸ h4) (h w)
  exact unparts (wk q4 (.code New1.yN New1.yB 2 none)) (wks q4 (.initialized New1.yN.cls :: New1.site))
theorem moved {Z s : State} {a0 args : Array Value} (hZ : Z.Warmed39 s.vm) (hw : ∀ d ∈ words, d.before a0 Z = true) : ∀ d ∈ words, d.before args s = true := fun d hd => by
  have q := hw d hd
  have t : ∀ d ∈ words, d = .arrayClass .byte ∨ (d.onTables && d.keepsFace) = true := by decide +kernel
  rcases t d hd with rfl | t
  · exact RoadKit.mvA hZ q
  · exact RoadKit.mv hZ q t
def Q (Z : State) (x : Addr) (A : Cell) (h : Heap) (v : Option Value) (h' : Heap) (L : List Loc) : Prop := v = none ∧ (∀ y ∈ L, y.base = x) ∧ RoadKit.Keep h h' [x] ∧ h'.size = h.size + 1 ∧ RoadKit.Exa Z h' x ST ∧ RoadKit.Fld Z h' x ST "value" "[B" (.ref h.size) ∧ RoadKit.Fld Z h' x ST "coder" "B" (.int 0) ∧
  (∃ V : Cell, RoadKit.Arr Z h' h.size V .byte ∧ V.vm = .none ∧ Z.vm.findClass "[B" = some V.cls ∧ V.slots.size = A.slots.size ∧ ∀ j, j < A.slots.size → V.slots[j]? = some (.int (lo8 (cv A j)))) ∧
  ∀ (O n d : String) (w : Value), RoadKit.Fld Z h x O n d w → RoadKit.slotOf Z O n d ≠ RoadKit.slotOf Z ST "value" "[B" → RoadKit.slotOf Z O n d ≠ RoadKit.slotOf Z ST "coder" "B" → RoadKit.Fld Z h' x O n d w
theorem back {p : Program} {l : Launch} {e : Env} {R : Room} {s : State} {args : Array Value} {below : List Frame} {len W : Nat} {Z : State} {a0 : Array Value} {h : Heap} (hZ : Z.Warmed39 s.vm) (hw : ∀ d ∈ words, d.before a0 Z = true) {kI : Nat} (wi : (Jvm.Cond.instantiable ST kI).before a0 Z = true)
    {x b : Addr} {A : Cell} {z : Int32} {v0 c0 : Value} (E : RoadKit.Exa Z h x ST) (V : RoadKit.Fld Z h x ST "value" "[B" v0) (C : RoadKit.Fld Z h x ST "coder" "B" c0) (K : RoadKit.Arr Z h b A .char) (hty : Typed .char A) (S : RoadKit.Sta Z h ST "COMPACT_STRINGS" "Z" (.int z)) (hz : ¬ z = 0)
    (l0 : 0 < A.slots.size) (l2 : A.slots.size ≤ 536870912) (hp : ∀ i, i < A.slots.size → ¬ 255 < cv A i) (hfr : 4 ≤ R.frames) (hlo : W + 65 ≤ R.locals) :
    Back l R p e below s args New1.yN len W (fun P a => a = #[.ref x, .ref b] ∧ P.U.heap = h ∧ P.cells + 1 ≤ R.cells ∧ P.slots + A.slots.size ≤ R.slots)
      (fun P _ v B => ∃ L, Q Z x A h v B.U.heap L ∧ B.locs = P.locs ++ L ∧ B.cells = P.cells + 1 ∧ B.slots = P.slots + A.slots.size) := by
  intro m meth c P g ig mk a X hg hsize hdg hW hn hp'
  obtain ⟨rfl, rfl, r1, r2⟩ := hp'
  have al : Z.vm.Alike P.U.vm := hZ.alike.trans X.warmed.alike
  obtain ⟨D, cfV, kV, iV, fV, hD, gV, stV, knV, obV, asV, slV⟩ := id V
  obtain ⟨D', cfC, kC, iC, fC, hD', gC, stC, -, -, asC, slC⟩ := id C
  cases hD.symm.trans hD'
  obtain ⟨D2, kD, e1, e2, e3, e4, e5⟩ := id E
  cases hD.symm.trans e1
  obtain ⟨c2, k2, i1, i2, i3, -⟩ := Cond.instantiable_spec wi
  cases e2.symm.trans i1
  cases e3.symm.trans i2
  obtain ⟨kU, u1, u2⟩ := al.2.2 _ _ e3
  have hB : Blank ST x D P.U := ⟨hD, ⟨knV, fun q hq => by rw [hq] at obV; cases obV⟩, by rw [al.findClass]; exact e2, kU, u1, by rw [u2]; exact i3, by rw [u2]; exact e5 i3⟩
  have F1 : Found ST "value" "[B" fV P.U := ⟨SBG.found_only al ⟨cfV, kV, iV, gV⟩, stV⟩
  have F2 : Found ST "coder" "B" fC P.U := ⟨SBG.found_only al ⟨cfC, kC, iC, gC⟩, stC⟩
  have hA : Ch b A P.U := ⟨⟨K.1, State.isArrayOf_alike al K.2.1, K.2.2, by omega⟩, hty⟩
  have hS : StaticIs P.U ST "COMPACT_STRINGS" "Z" (.int z) := by
    obtain ⟨cfS, iS, kS, fS, st, cS, t1, t2, t3, t4, t5, t6, t7⟩ := S
    exact StaticIs.there (s := { Z with heap := P.U.heap }) ⟨cfS, iS, kS, fS, st, cS, t1, t2, t3, t4, t5, (fun q => by rw [q] at t6; cases t6), t7⟩ al rfl
  obtain ⟨v, B, X', ⟨⟨hv, E', V', q1, q2, q3, q4, q5, q6, q7, q8, q9, q10, q11⟩, hl, hc, hs⟩, st⟩ := New1.pays x D fV fC b A z (tab_of (moved hZ hw)) hfr hlo m meth c P g ig mk _ X hg hsize hdg hW hn ⟨r1, r2, rfl, hB, F1, F2, hA, hS, hz, l0, l2, hp⟩
  have al' : Z.vm.Alike B.U.vm := hZ.alike.trans X'.warmed.alike
  have hsz : E'.slots.size = D.slots.size := by
    obtain ⟨-, -, -, kB, w1, w2, w3⟩ := q1
    obtain ⟨kB', y1, y2⟩ := al'.2.2 _ _ e3
    rw [q2.2.1] at w1
    cases w1.symm.trans y1
    rw [w3, e5 i3, y2]
  refine ⟨v, B, X', ⟨_, ⟨hv, ?_, ⟨by omega, fun y cy hy hn' => q10 y cy (by simpa using hn') hy, fun y cy hy => ?_⟩, q11, ⟨E', _, q1.1, by rw [q2.2.1]; exact e2, by rw [q2.2.1]; exact e3, by rw [q2.1]; exact obV, fun _ => by rw [hsz]; exact e5 i3⟩,
    ⟨E', cfV, kV, iV, fV, q1.1, gV, stV, by rw [q2.1]; exact knV, by rw [q2.1]; exact obV, by rw [q2.2.1]; exact asV, q3⟩, ⟨E', cfC, kC, iC, fC, q1.1, gC, stC, by rw [q2.1]; exact knV, by rw [q2.1]; exact obV, by rw [q2.2.1]; exact asC, q4⟩,
    ⟨V', ⟨q5.1, State.isArrayOf_alike al'.symm q5.2.1, q5.2.2.1⟩, q6, by rw [← al'.findClass]; exact q7, q8, fun j hj => by have := q9 j hj; rwa [Nat.zero_add] at this⟩, fun O n d w F n1 n2 => ?_⟩, hl, hc, hs⟩, st⟩
  · intro y hy
    simp only [List.mem_cons, List.not_mem_nil, or_false] at hy
    rcases hy with rfl | rfl <;> rfl
  · by_cases q : y = x
    · subst q
      cases hD.symm.trans hy
      exact ⟨E', q1.1, q2.2.1, q2.1, hsz⟩
    · exact ⟨cy, q10 y cy q hy, rfl, rfl, rfl⟩
  · obtain ⟨D3, cf, k, i, f, g1, g2, g3, g4, g5, g6, g7⟩ := F
    cases hD.symm.trans g1
    simp only [RoadKit.slotOf, g2, gV, gC, Option.map_some, Option.getD_some] at n1 n2
    exact ⟨E', cf, k, i, f, q1.1, g2, g3, by rw [q2.1]; exact g4, by rw [q2.1]; exact g5, by rw [q2.2.1]; exact g6, by rw [q2.2.2 f.slot (by simp [n1, n2])]; exact g7⟩
end StrChars.Road
namespace StrChars.Road
open Jvm Sem ClassFile Op Lib Jvm.Stand Jvm.Free Jvm.Free.XT
def QA (Z : State) (x : Addr) (zn : Int32) (cs : List Int32) (h : Heap) (v : Option Value) (h' : Heap) (L : List Loc) : Prop := v = none ∧ (∀ y ∈ L, y.base = x) ∧ RoadKit.Keep h h' [x] ∧ h'.size = h.size + 1 ∧ RoadKit.Exa Z h' x ST ∧ RoadKit.Fld Z h' x ST "value" "[B" (.ref h.size) ∧ RoadKit.Fld Z h' x ST "coder" "B" (.int 0) ∧
  (∃ kb, Z.vm.findClass "[B" = some kb ∧ RoadKit.Arv Z h' h.size kb .byte zn (cs.map fun c => .int (lo8 c)) (.int 0)) ∧
  ∀ (O n d : String) (w : Value), RoadKit.Fld Z h x O n d w → RoadKit.slotOf Z O n d ≠ RoadKit.slotOf Z ST "value" "[B" → RoadKit.slotOf Z O n d ≠ RoadKit.slotOf Z ST "coder" "B" → RoadKit.Fld Z h' x O n d w
theorem backArv {p : Program} {l : Launch} {e : Env} {R : Room} {s : State} {args : Array Value} {below : List Frame} {len W : Nat} {Z : State} {a0 : Array Value} {h : Heap} (hZ : Z.Warmed39 s.vm) (hw : ∀ d ∈ words, d.before a0 Z = true) {kI : Nat} (wi : (Jvm.Cond.instantiable ST kI).before a0 Z = true)
    {x b : Addr} {k : ClassId} {zn z : Int32} {cs : List Int32} {dv v0 c0 : Value} (E : RoadKit.Exa Z h x ST) (V : RoadKit.Fld Z h x ST "value" "[B" v0) (C : RoadKit.Fld Z h x ST "coder" "B" c0) (K : RoadKit.Arv Z h b k .char zn (cs.map Value.int) dv) (S : RoadKit.Sta Z h ST "COMPACT_STRINGS" "Z" (.int z)) (hz : ¬ z = 0)
    (hlen : zn.toNatClampNeg = cs.length) (h0 : 0 < cs.length) (hbig : cs.length ≤ 536870912) (hall : ∀ c ∈ cs, ¬ 255 < c) (hfr : 4 ≤ R.frames) (hlo : W + 65 ≤ R.locals) :
    Back l R p e below s args New1.yN len W (fun P a => a = #[.ref x, .ref b] ∧ P.U.heap = h ∧ P.cells + 1 ≤ R.cells ∧ P.slots + cs.length ≤ R.slots)
      (fun P _ v B => ∃ L, QA Z x zn cs h v B.U.heap L ∧ B.locs = P.locs ++ L ∧ B.cells = P.cells + 1 ∧ B.slots = P.slots + cs.length) := by
  obtain ⟨A, K1, K2, K3, K4, K5, K6⟩ := K
  have e : A.slots.size = cs.length := K3.trans hlen
  have hat : ∀ (i : Nat) (hi : i < cs.length), A.slots[i]? = some (.int cs[i]) := fun i hi => by rw [K5 i (by omega)]; simp [List.getD_eq_getElem?_getD, hi]
  have hcv : ∀ (i : Nat) (hi : i < cs.length), cv A i = cs[i] := fun i hi => by unfold cv; rw [hat i hi]
  have hty : Typed .char A := fun i v hv => by
    have hi : i < A.slots.size := (Array.getElem?_eq_some_iff.mp hv).1
    have q := K5 i hi
    rw [hv] at q
    rw [Option.some.inj q]
    exact K6 i hi
  refine Back.mono (back hZ hw wi E V C K1 hty S hz (by omega) (by omega) (fun i hi => by rw [hcv i (by omega)]; exact hall _ (List.getElem_mem _)) hfr hlo) (fun P a hp => ⟨hp.1, hp.2.1, hp.2.2.1, by rw [e]; exact hp.2.2.2⟩) (fun P a v B hp hq => ?_)
  obtain ⟨L, ⟨q1, q2, q3, q4, q5, q6, q7, ⟨V', v1, v2, v3, v4, v5⟩, q9⟩, hl, hc, hs⟩ := hq
  refine ⟨L, ⟨q1, q2, q3, q4, q5, q6, q7, ⟨V'.cls, v3, V', v1, rfl, by rw [v4, e, hlen], K4, fun i hi => ?_, fun i hi => ?_⟩, q9⟩, hl, hc, by rw [hs, e]⟩
  · have hi' : i < cs.length := by omega
    rw [v5 i (by omega), hcv i hi']; simp [List.getD_eq_getElem?_getD, hi']
  · have hi' : i < cs.length := by omega
    simp only [List.getD_eq_getElem?_getD, List.getElem?_map, List.getElem?_eq_getElem hi', Option.map_some, Option.getD_some]
    exact fits_lo8 _
end StrChars.Road
namespace StrChars.Road
open Jvm Sem ClassFile Op Lib Jvm.Stand Jvm.Free Jvm.Free.XT
def QV (Z : State) (x : Addr) (N : Int32) (bs : List Int32) (h : Heap) (n0 : Nat) (v : Option Value) (h' : Heap) (L : List Loc) : Prop := v = none ∧ RoadKit.Fr n0 L ∧ RoadKit.Keep h h' [x] ∧ RoadKit.Exa Z h' x ST ∧ RoadKit.Fld Z h' x ST "coder" "B" (.int 0) ∧
  ∃ (t : Addr) (kb : ClassId), n0 ≤ t ∧ h.size ≤ t ∧ ¬ t = x ∧ RoadKit.Fld Z h' x ST "value" "[B" (.ref t) ∧ RoadKit.Arv Z h' t kb .byte N (bs.map Value.int) (.int 0)
theorem backV {p : Program} {l : Launch} {e : Env} {R : Room} {s : State} {args : Array Value} {below : List Frame} {len W : Nat} {Z : State} {a0 : Array Value} {h : Heap} (hZ : Z.Warmed39 s.vm) (hw : ∀ d ∈ words, d.before a0 Z = true) {kI : Nat} (wi : (Jvm.Cond.instantiable ST kI).before a0 Z = true)
    {x b : Addr} {kC : ClassId} {cs bs : List Int32} {d v0 c0 : Value} {z N : Int32} {n n0 : Nat} (hx0 : n0 ≤ x) (hh0 : n0 ≤ h.size) (E : RoadKit.Exa Z h x ST) (V : RoadKit.Fld Z h x ST "value" "[B" v0) (C : RoadKit.Fld Z h x ST "coder" "B" c0) (K : RoadKit.Arv Z h b kC .char N (cs.map Value.int) d) (S : RoadKit.Sta Z h ST "COMPACT_STRINGS" "Z" (.int z)) (hz : ¬ z = 0)
    (hn : cs.length = n) (hN : N = Int32.ofNat n) (l0 : 0 < n) (l2 : n ≤ 4000) (hp : ∀ c ∈ cs, ¬ c < 0 ∧ ¬ (255 : Int32) < c) (hb : bs = cs.map (fun c => c.toInt8.toInt32)) (hfr : 4 ≤ R.frames) (hlo : W + 65 ≤ R.locals) :
    Back l R p e below s args (⟨"java/lang/String", "<init>", "([C)V"⟩ : MethodName) len W (fun P a => a = #[.ref x, .ref b] ∧ P.U.heap = h ∧ P.cells + 1 ≤ R.cells ∧ P.slots + n ≤ R.slots)
      (fun P _ v B => ∃ L, QV Z x N bs h n0 v B.U.heap L ∧ B.locs = P.locs ++ L ∧ B.cells = P.cells + 1 ∧ B.slots = P.slots + n) := by
  subst hn hN hb
  refine Back.mono (backArv hZ hw wi E V C K S hz (n32 (by omega)) l0 (by omega) (fun c hc => (hp c hc).2) hfr hlo) (fun P a hp => hp) (fun P a v B hp hq => ?_)
  obtain ⟨L, ⟨q1, q2, q3, q4, q5, q6, q7, ⟨kb, v1, v2⟩, q9⟩, hl, hc, hs⟩ := hq
  exact ⟨L, ⟨q1, fun y hy => by rw [q2 y hy]; exact hx0, q3, q5, q7, h.size, kb, hh0, Nat.le_refl _, Nat.ne_of_gt E.lt, q6, by rw [List.map_map]; exact v2⟩, hl, hc, hs⟩
end StrChars.Road
namespace StrChars
open Jvm Sem ClassFile Op Lib Jvm.Stand Jvm.Free.XT Jvm.Free.ALB Jvm.Free.JM Jvm.Free
open Jvm.Lib.Cold (StaticIs)
def hi8 (x : Int32) : Int32 := lo8 (x >>> ((8 : Int32) &&& 31))
def pairCh (u v : Int32) : Int32 := (((u &&& 255) <<< ((0 : Int32) &&& 31)) ||| ((v &&& 255) <<< ((8 : Int32) &&& 31))).toUInt32.toUInt16.toUInt32.toInt32
theorem shr0 (c : Int32) : c >>> ((0 : Int32) &&& 31) = c := by
  have e : ((0 : Int32) &&& 31) = 0 := by decide
  rw [e]
  apply Int32.toBitVec_inj.mp
  rw [Int32.toBitVec_shiftRight]
  have e1 : ((0 : Int32).toBitVec.smod 32) = 0#32 := by decide
  rw [e1, BitVec.sshiftRight_eq']
  exact BitVec.sshiftRight_zero
theorem lo8_and (x : Int32) : (lo8 x &&& 255).toBitVec.toNat = x.toBitVec.toNat % 256 := by
  have h : (lo8 x).toBitVec = (x.toBitVec.signExtend 8).signExtend 32 := by rw [lo8, Int8.toBitVec_toInt32, Int32.toBitVec_toInt8]
  rw [Int32.toBitVec_and, BitVec.toNat_and, h]
  have e : ((x.toBitVec.signExtend 8).signExtend 32).toNat % 256 = x.toBitVec.toNat % 256 := by
    rw [BitVec.toNat_signExtend]
    have hlt := x.toBitVec.isLt
    simp only [BitVec.toNat_setWidth, BitVec.toNat_signExtend]
    split <;> split <;> omega
  rw [← e]
  exact Nat.and_two_pow_sub_one_eq_mod _ 8
theorem pair_says {c : Int32} (h0 : ¬ c < 0) (h1 : ¬ 65535 < c) : pairCh (lo8 c) (hi8 c) = c := by
  rw [Int32.lt_iff_toInt_lt] at h0 h1
  have e0 : (0 : Int32).toInt = 0 := rfl
  have e1 : (65535 : Int32).toInt = 65535 := rfl
  have hc : c.toInt = c.toBitVec.toNat := by
    have := c.toBitVec.isLt
    have e : c.toInt = c.toBitVec.toInt := rfl
    rw [e] at h0 h1
    rw [e]
    rw [BitVec.toInt_eq_toNat_cond] at h0 h1 ⊢
    split at h0 <;> split <;> omega
  have hn : c.toBitVec.toNat < 65536 := by omega
  have a1 := lo8_and c
  have a2 : (hi8 c &&& 255).toBitVec.toNat = c.toBitVec.toNat / 256 := by
    rw [hi8, lo8_and]
    have e : ((8 : Int32) &&& 31) = 8 := by decide
    rw [e, Int32.toBitVec_shiftRight]
    have e2 : ((8 : Int32).toBitVec.smod 32) = 8#32 := by decide
    rw [e2, BitVec.sshiftRight_eq', BitVec.toNat_sshiftRight_of_msb_false (by rw [BitVec.msb_eq_false_iff_two_mul_lt]; omega)]
    show c.toBitVec.toNat >>> 8 % 256 = _
    rw [Nat.shiftRight_eq_div_pow]
    omega
  unfold pairCh
  apply Int32.toBitVec_inj.mp
  apply BitVec.eq_of_toNat_eq
  have f0 : ((0 : Int32) &&& 31) = 0 := by decide
  have f8 : ((8 : Int32) &&& 31) = 8 := by decide
  rw [f0, f8]
  have g : (((lo8 c &&& 255) <<< (0 : Int32)) ||| ((hi8 c &&& 255) <<< (8 : Int32))).toBitVec.toNat = c.toBitVec.toNat := by
    rw [Int32.toBitVec_or, Int32.toBitVec_shiftLeft, Int32.toBitVec_shiftLeft]
    have s0 : ((0 : Int32).toBitVec.smod 32) = 0#32 := by decide
    have s8 : ((8 : Int32).toBitVec.smod 32) = 8#32 := by decide
    rw [s0, s8, BitVec.toNat_or]
    simp only [BitVec.shiftLeft_eq', BitVec.toNat_shiftLeft, a1, a2]
    show (c.toBitVec.toNat % 256) <<< 0 % 2 ^ 32 ||| (c.toBitVec.toNat / 256) <<< 8 % 2 ^ 32 = _
    rw [Nat.shiftLeft_zero, Nat.mod_eq_of_lt (show c.toBitVec.toNat % 256 < 2 ^ 32 by omega), Nat.mod_eq_of_lt (show (c.toBitVec.toNat / 256) <<< 8 < 2 ^ 32 by rw [Nat.shiftLeft_eq]; omega), Nat.or_comm, ← Nat.shiftLeft_add_eq_or_of_lt (by omega), Nat.shiftLeft_eq]
    omega
  show BitVec.toNat (((((lo8 c &&& 255) <<< (0 : Int32)) ||| ((hi8 c &&& 255) <<< (8 : Int32))).toBitVec.setWidth 16).setWidth 32) = _
  rw [BitVec.toNat_setWidth, BitVec.toNat_setWidth, g]
  omega
end StrChars
namespace StrChars
open Jvm Sem ClassFile Op Lib Jvm.Stand Jvm.Free.XT Jvm.Free.ALB Jvm.Free.JM Jvm.Free
open Jvm.Lib.Cold (StaticIs)
theorem shr1 {n : Nat} (h : 2 * n < 2 ^ 31) : Int32.ofNat (2 * n) >>> ((1 : Int32) &&& 31) = Int32.ofNat n := by
  have e : ((1 : Int32) &&& 31) = 1 := by decide
  rw [e]
  apply Int32.toBitVec_inj.mp
  rw [Int32.toBitVec_shiftRight]
  have e1 : ((1 : Int32).toBitVec.smod 32) = 1#32 := by decide
  have hm : (BitVec.ofNat 32 (2 * n)).toNat = 2 * n := by rw [BitVec.toNat_ofNat, Nat.mod_eq_of_lt (by omega)]
  rw [e1, BitVec.sshiftRight_eq']
  apply BitVec.eq_of_toNat_eq
  show ((BitVec.ofNat 32 (2 * n)).sshiftRight 1).toNat = (BitVec.ofNat 32 n).toNat
  rw [BitVec.toNat_sshiftRight_of_msb_false (by rw [BitVec.msb_eq_false_iff_two_mul_lt, hm]; omega), hm, BitVec.toNat_ofNat, Nat.shiftRight_eq_div_pow]
  omega
def chr8 (u : Int32) : Int32 := (u &&& 255).toUInt32.toUInt16.toUInt32.toInt32
theorem chr8_lo8 {c : Int32} (h0 : ¬ c < 0) (h1 : ¬ 255 < c) : chr8 (lo8 c) = c := by
  have t : ∀ k : Fin 256, (Int32.ofNat k.val).toUInt32.toUInt16.toUInt32.toInt32 = Int32.ofNat k.val := by decide +kernel
  unfold chr8
  rw [lo8_mask h0 h1]
  rw [Int32.lt_iff_toInt_lt] at h0 h1
  have e0 : (0 : Int32).toInt = 0 := rfl
  have e1 : (255 : Int32).toInt = 255 := rfl
  obtain ⟨k, hk⟩ : ∃ k : Nat, c.toInt = k := ⟨c.toInt.toNat, by omega⟩
  have hx : c = Int32.ofNat k := Int32.toInt_inj.mp (by rw [hk, Int32.toInt_ofNat_small (by omega)])
  rw [hx]
  exact t ⟨k, by omega⟩
theorem narrow_ch {c : Int32} (h0 : ¬ c < 0) (h1 : ¬ 65535 < c) : narrow .char (.int c) = .int c := by
  have q : narrow .char (.int (pairCh (lo8 c) (hi8 c))) = .int (pairCh (lo8 c) (hi8 c)) := narrow_c _
  rwa [pair_says h0 h1] at q
def Cod (cd : Int32) (n : Nat) (f : Nat → Int32) (V : Cell) : Prop := (cd = 0 ∧ V.slots.size = n ∧ ∀ j, j < n → V.slots[j]? = some (.int (lo8 (f j))) ∧ ¬ 255 < f j) ∨ (cd = 1 ∧ V.slots.size = 2 * n ∧ (∀ j, j < n → V.slots[2 * j]? = some (.int (lo8 (f j))) ∧ V.slots[2 * j + 1]? = some (.int (hi8 (f j)))) ∧ ∃ j, j < n ∧ 255 < f j)
theorem Cod.cd {cd : Int32} {n : Nat} {f : Nat → Int32} {V : Cell} (h : Cod cd n f V) : cd = 0 ∨ cd = 1 := h.imp (fun q => q.1) fun q => q.1
theorem Cod.len {cd : Int32} {n : Nat} {f : Nat → Int32} {V : Cell} (h : Cod cd n f V) (hs : V.slots.size < 2 ^ 31) : Int32.ofNat V.slots.size >>> (cd &&& 31) = Int32.ofNat n := by
  rcases h with ⟨rfl, h, -⟩ | ⟨rfl, h, -⟩
  · rw [shr0, h]
  · rw [h, shr1 (by omega)]
def Txt (x t : Addr) (V : Cell) (cd : Int32) (n : Nat) (f : Nat → Int32) (U : State) : Prop := Exact "java/lang/String" x U ∧ Has x "java/lang/String" "value" "[B" (.ref t) U ∧ Has x "java/lang/String" "coder" "B" (.int cd) U ∧ XT.Arr .byte t V U ∧ Cod cd n f V ∧ ∀ j, j < n → ¬ f j < 0 ∧ ¬ 65535 < f j
theorem Txt.mv {x t : Addr} {V : Cell} {cd : Int32} {n : Nat} {f : Nat → Int32} {U U' : State} (h : Txt x t V cd n f U) (hal : U.vm.Alike U'.vm) (hh : U'.heap = U.heap) : Txt x t V cd n f U' := ⟨h.1.mv hal hh, h.2.1.mv hal hh, h.2.2.1.mv hal hh, h.2.2.2.1.mv hal hh, h.2.2.2.2⟩
namespace Cdr
def yN : MethodName := ⟨"java/lang/String", "coder", "()B"⟩
abbrev yB : ByteArray := jdk_42_method_152_code
theorem d0 : decode yB 0 = .ok (.getstatic 38, 3) := by decide +kernel
theorem d3 : decode yB 3 = .ok (.ifCond (.eq) 10, 3) := by decide +kernel
theorem d6 : decode yB 6 = .ok (.aload_n 0, 1) := by decide +kernel
theorem d7 : decode yB 7 = .ok (.getfield 15, 3) := by decide +kernel
theorem d10 : decode yB 10 = .ok (.goto 4, 3) := by decide +kernel
theorem d14 : decode yB 14 = .ok (.ireturn, 1) := by decide +kernel
def site : List Cond := [.fieldLink "java/lang/String" 38 "java/lang/String" "COMPACT_STRINGS" "Z", .fieldLink "java/lang/String" 15 "java/lang/String" "coder" "B"]
def tab : Cond := tabOf yN yB 1 (some .byte) site
def P (x : Addr) (cd z : Int32) (args : Array Value) (s : State) : Prop := args = #[.ref x] ∧ Has x "java/lang/String" "coder" "B" (.int cd) s ∧ (cd = 0 ∨ cd = 1) ∧ StaticIs s "java/lang/String" "COMPACT_STRINGS" "Z" (.int z) ∧ ¬ z = 0
def E (cd : Int32) (r : Option Value) (s u : State) : Prop := XT.PureE (some (.int cd)) r s u
theorem law (l : Launch) (x : Addr) (cd z : Int32) : Law l yN 1 0 0 0 yB 1 (some .byte) site (P x cd z) (E cd) [] 0 0 := by
  refine Law.of_walk (plainFor_of_name (by decide +kernel)) (by decide +kernel) (by decide +kernel) (by decide) (fun _ _ h => by rw [h.1]; rfl) (fun _ U U' hal hh h => ⟨h.1, h.2.1.mv hal hh, h.2.2.1, h.2.2.2.1.there hal hh, h.2.2.2.2⟩) (fun r U U' V V' h1 hal h2 h => XT.PureE.mv r U U' V V' h1 hal h2 h) ?_
  intro p e s m args below meth c s₁ X0 hexec hbytes hml hret hlk hnm hown hh0 W hP
  obtain ⟨rfl, hx, hc, s1, hz⟩ := hP
  have c1 : Steps p.tables e below (s₁.setTop (entryFrame m #[.ref x] 1)) (s₁.setTop (mkF m 0 #[.val (.ref x)] [])) := entry rfl
  obtain ⟨T2, X2, q2, st2⟩ := X0.sget hexec hown (wk W (.fieldLink "java/lang/String" 38 "java/lang/String" "COMPACT_STRINGS" "Z")) s1 (fun _ _ h => by rw [hh0]; exact h) (g := (mkF m 0 #[.val (.ref x)] [])) rfl (hb hbytes d0)
  have hh2 := q2.trans hh0
  have c3 : Steps p.tables e below (s₁.setTop (entryFrame m #[.ref x] 1)) (T2.setTop (mkF m 7 #[.val (.ref x)] [.ref x])) := (c1.trans (st2 _ (Steps.refl _))).trans (by
    refine XS.ifNo X2.here hexec rfl (hb hbytes d3) rfl (i0_eq_f hz) ?_
    refine XS.aloadN X2.here hexec rfl (hb hbytes d6) rfl rfl ?_
    exact Steps.refl _)
  obtain ⟨T4, X4, q4, st4⟩ := X2.hget hexec hown (wk W (.fieldLink "java/lang/String" 15 "java/lang/String" "coder" "B")) (hx.mv X2.warmed.alike hh2) (g := (mkF m 7 #[.val (.ref x)] [.ref x])) rfl (rest := []) rfl (hb hbytes d7)
  have c5 : Steps p.tables e below (s₁.setTop (entryFrame m #[.ref x] 1)) (T4.setTop (mkF m 14 #[.val (.ref x)] [.int cd])) := (c3.trans (st4 _ (Steps.refl _))).trans (by
    refine XS.goto X4.here hexec rfl (pc0 := 10) rfl (hb hbytes d10) (by decide) rfl ?_
    exact Steps.refl _)
  exact ⟨T4, some (.int cd), _, _, _, X4, rfl, rfl, rfl, (fun h => by cases h), ⟨rfl, q4.trans hh2⟩, fun fs hl => c5.trans (X4.ireturnOut hexec hret (by rcases hc with rfl | rfl <;> rfl) (Or.inr (Or.inr (Or.inl rfl))) (hb hbytes d14) hl)⟩
end Cdr
namespace Len
def yN : MethodName := ⟨"java/lang/String", "length", "()I"⟩
abbrev yB : ByteArray := jdk_42_method_54_code
theorem d0 : decode yB 0 = .ok (.aload_n 0, 1) := by decide +kernel
theorem d1 : decode yB 1 = .ok (.getfield 9, 3) := by decide +kernel
theorem d4 : decode yB 4 = .ok (.arraylength, 1) := by decide +kernel
theorem d5 : decode yB 5 = .ok (.aload_n 0, 1) := by decide +kernel
theorem d6 : decode yB 6 = .ok (.invokevirtual 335, 3) := by decide +kernel
theorem d9 : decode yB 9 = .ok (.ishr, 1) := by decide +kernel
theorem d10 : decode yB 10 = .ok (.ireturn, 1) := by decide +kernel
def site : List Cond := [.fieldLink "java/lang/String" 9 "java/lang/String" "value" "[B", Cdr.tab] ++ virtW "java/lang/String" 335 "java/lang/String" Cdr.yN Cdr.yN
def tab : Cond := tabOf yN yB 1 (some .int) site
def P (x t : Addr) (V : Cell) (cd : Int32) (n : Nat) (f : Nat → Int32) (z : Int32) (args : Array Value) (s : State) : Prop := args = #[.ref x] ∧ Txt x t V cd n f s ∧ StaticIs s "java/lang/String" "COMPACT_STRINGS" "Z" (.int z) ∧ ¬ z = 0
def E (n : Nat) (r : Option Value) (s u : State) : Prop := XT.PureE (some (.int (Int32.ofNat n))) r s u
theorem law (l : Launch) (x t : Addr) (V : Cell) (cd : Int32) (n : Nat) (f : Nat → Int32) (z : Int32) : Law l yN 1 0 1 13 yB 1 (some .int) site (P x t V cd n f z) (E n) [] 0 0 := by
  refine Law.of_walk (plainFor_of_name (by decide +kernel)) (by decide +kernel) (by decide +kernel) (by decide) (fun _ _ h => by rw [h.1]; rfl) (fun _ U U' hal hh h => ⟨h.1, h.2.1.mv hal hh, h.2.2.1.there hal hh, h.2.2.2⟩) (fun r U U' V V' h1 hal h2 h => XT.PureE.mv r U U' V V' h1 hal h2 h) ?_
  intro p e s m args below meth c s₁ X0 hexec hbytes hml hret hlk hnm hown hh0 W hP
  obtain ⟨rfl, hx, s1, hz⟩ := hP
  have v31 := hx.2.2.2.1.2.2.2
  have c1 : Steps p.tables e below (s₁.setTop (entryFrame m #[.ref x] 1)) (s₁.setTop (mkF m 1 #[.val (.ref x)] [.ref x])) := Steps.trans (entry rfl) (by
    show Steps p.tables e below (s₁.setTop (mkF m 0 #[.val (.ref x)] [])) _
    refine XS.aloadN X0.here hexec rfl (hb hbytes d0) rfl rfl ?_
    exact Steps.refl _)
  obtain ⟨T2, X2, q2, st2⟩ := X0.hget hexec hown (wk W (.fieldLink "java/lang/String" 9 "java/lang/String" "value" "[B")) (hx.mv X0.warmed.alike hh0).2.1 (g := (mkF m 1 #[.val (.ref x)] [.ref x])) rfl (rest := []) rfl (hb hbytes d1)
  have hh2 := q2.trans hh0
  have hx2 := hx.mv X2.warmed.alike hh2
  have c3 : Steps p.tables e below (s₁.setTop (entryFrame m #[.ref x] 1)) (T2.setTop (mkF m 6 #[.val (.ref x)] [.ref x, .int (Int32.ofNat V.slots.size)])) := (c1.trans (st2 _ (Steps.refl _))).trans (by
    refine X2.alen hexec hx2.2.2.2.1 rfl rfl (hb hbytes d4) ?_
    refine XS.aloadN X2.here hexec rfl (hb hbytes d5) rfl rfl ?_
    exact Steps.refl _)
  obtain ⟨v4, T4, X4, E4, g4⟩ := X2.callV hexec (Cdr.law l x cd z) hown (wks W (virtW "java/lang/String" 335 "java/lang/String" Cdr.yN Cdr.yN)) rfl (by decide) (wk W Cdr.tab) (W := 1) (Nat.le_of_ble_eq_true rfl) (Nat.le_of_ble_eq_true rfl) (Nat.le_refl _) (Nat.le_refl _) (hx2.1.fc X2.warmed.alike) hx2.1.is (g := (mkF m 6 #[.val (.ref x)] [.ref x, .int (Int32.ofNat V.slots.size)])) rfl (by rw [hml]; rfl) c3 (argsL := []) (rest := [.int (Int32.ofNat V.slots.size)]) rfl rfl (by show 2 * 0 + (1 + 0) ≤ _; decide) (hb hbytes d6) (⟨rfl, hx2.2.2.1, hx.2.2.2.2.1.cd, s1.there X2.warmed.alike hh2, hz⟩)
  obtain ⟨rfl, q4⟩ := E4
  have c5 : Steps p.tables e below (s₁.setTop (entryFrame m #[.ref x] 1)) (T4.setTop (mkF m 10 #[.val (.ref x)] [.int (Int32.ofNat V.slots.size >>> (cd &&& 31))])) := Steps.trans g4 (by
    refine ishr X4.here hexec rfl (hb hbytes d9) rfl ?_
    exact Steps.refl _)
  rw [hx.2.2.2.2.1.len v31] at c5
  exact ⟨T4, some (.int (Int32.ofNat n)), _, _, _, X4, rfl, rfl, rfl, (fun h => by cases h), ⟨rfl, q4.trans hh2⟩, fun fs hl => c5.trans (X4.ireturnOut hexec hret rfl (Or.inl rfl) (hb hbytes d10) hl)⟩
theorem pays {l : Launch} {R : Room} {p : Program} {e : Env} {below : List Frame} {s : State} {sargs : Array Value} {len W : Nat} (x t : Addr) (V : Cell) (cd : Int32) (n : Nat) (f : Nat → Int32) (z : Int32) (htab : tab.before sargs s = true) (hfr : 2 ≤ R.frames) (hlo : W + 25 ≤ R.locals) :
    Back l R p e below s sargs yN len W (fun A₁ a₁ => A₁.cells + 0 ≤ R.cells ∧ A₁.slots + 0 ≤ R.slots ∧ P x t V cd n f z a₁ A₁.U) (fun A₁ _ v₁ B₁ => E n v₁ A₁.U B₁.U ∧ B₁.locs = A₁.locs ++ [] ∧ B₁.cells = A₁.cells + 0 ∧ B₁.slots = A₁.slots + 0) :=
  (law l x t V cd n f z).pays htab hfr (by omega)
end Len
namespace IsL
def yN : MethodName := ⟨"java/lang/String", "isLatin1", "()Z"⟩
abbrev yB : ByteArray := jdk_42_method_154_code
theorem d0 : decode yB 0 = .ok (.getstatic 38, 3) := by decide +kernel
theorem d3 : decode yB 3 = .ok (.ifCond (.eq) 14, 3) := by decide +kernel
theorem d6 : decode yB 6 = .ok (.aload_n 0, 1) := by decide +kernel
theorem d7 : decode yB 7 = .ok (.getfield 15, 3) := by decide +kernel
theorem d10 : decode yB 10 = .ok (.ifCond (.ne) 7, 3) := by decide +kernel
theorem d13 : decode yB 13 = .ok (.iconst 1, 1) := by decide +kernel
theorem d14 : decode yB 14 = .ok (.goto 4, 3) := by decide +kernel
theorem d17 : decode yB 17 = .ok (.iconst 0, 1) := by decide +kernel
theorem d18 : decode yB 18 = .ok (.ireturn, 1) := by decide +kernel
def site : List Cond := [.fieldLink "java/lang/String" 38 "java/lang/String" "COMPACT_STRINGS" "Z", .fieldLink "java/lang/String" 15 "java/lang/String" "coder" "B"]
def tab : Cond := tabOf yN yB 1 (some .boolean) site
def P (x : Addr) (cd z : Int32) (args : Array Value) (s : State) : Prop := args = #[.ref x] ∧ Has x "java/lang/String" "coder" "B" (.int cd) s ∧ (cd = 0 ∨ cd = 1) ∧ StaticIs s "java/lang/String" "COMPACT_STRINGS" "Z" (.int z) ∧ ¬ z = 0
def E (cd : Int32) (r : Option Value) (s u : State) : Prop := XT.PureE (some (.int (1 - cd))) r s u
theorem law (l : Launch) (x : Addr) (cd z : Int32) : Law l yN 1 0 0 0 yB 1 (some .boolean) site (P x cd z) (E cd) [] 0 0 := by
  refine Law.of_walk (plainFor_of_name (by decide +kernel)) (by decide +kernel) (by decide +kernel) (by decide) (fun _ _ h => by rw [h.1]; rfl) (fun _ U U' hal hh h => ⟨h.1, h.2.1.mv hal hh, h.2.2.1, h.2.2.2.1.there hal hh, h.2.2.2.2⟩) (fun r U U' V V' h1 hal h2 h => XT.PureE.mv r U U' V V' h1 hal h2 h) ?_
  intro p e s m args below meth c s₁ X0 hexec hbytes hml hret hlk hnm hown hh0 W hP
  obtain ⟨rfl, hx, hc, s1, hz⟩ := hP
  have c1 : Steps p.tables e below (s₁.setTop (entryFrame m #[.ref x] 1)) (s₁.setTop (mkF m 0 #[.val (.ref x)] [])) := entry rfl
  obtain ⟨T2, X2, q2, st2⟩ := X0.sget hexec hown (wk W (.fieldLink "java/lang/String" 38 "java/lang/String" "COMPACT_STRINGS" "Z")) s1 (fun _ _ h => by rw [hh0]; exact h) (g := (mkF m 0 #[.val (.ref x)] [])) rfl (hb hbytes d0)
  have hh2 := q2.trans hh0
  have c3 : Steps p.tables e below (s₁.setTop (entryFrame m #[.ref x] 1)) (T2.setTop (mkF m 7 #[.val (.ref x)] [.ref x])) := (c1.trans (st2 _ (Steps.refl _))).trans (by
    refine XS.ifNo X2.here hexec rfl (hb hbytes d3) rfl (i0_eq_f hz) ?_
    refine XS.aloadN X2.here hexec rfl (hb hbytes d6) rfl rfl ?_
    exact Steps.refl _)
  obtain ⟨T4, X4, q4, st4⟩ := X2.hget hexec hown (wk W (.fieldLink "java/lang/String" 15 "java/lang/String" "coder" "B")) (hx.mv X2.warmed.alike hh2) (g := (mkF m 7 #[.val (.ref x)] [.ref x])) rfl (rest := []) rfl (hb hbytes d7)
  have c5 : Steps p.tables e below (s₁.setTop (entryFrame m #[.ref x] 1)) (T4.setTop (mkF m 10 #[.val (.ref x)] [.int cd])) := c3.trans (st4 _ (Steps.refl _))
  have c6 : Steps p.tables e below (s₁.setTop (entryFrame m #[.ref x] 1)) (T4.setTop (mkF m 18 #[.val (.ref x)] [.int (1 - cd)])) := by
    rcases hc with rfl | rfl
    · exact c5.trans (by
        refine XS.ifNo X4.here hexec rfl (hb hbytes d10) rfl (i0_ne_f rfl) ?_
        refine iconstV X4.here hexec rfl 1 (hb hbytes d13) (by decide) ?_
        refine XS.goto X4.here hexec rfl (pc0 := 14) rfl (hb hbytes d14) (by decide) rfl ?_
        exact Steps.refl _)
    · exact c5.trans (by
        refine XS.ifYes X4.here hexec rfl (pc0 := 10) rfl (hb hbytes d10) rfl (i0_ne_t (by decide)) (by decide) rfl ?_
        refine iconstV X4.here hexec rfl 0 (hb hbytes d17) (by decide) ?_
        exact Steps.refl _)
  exact ⟨T4, some (.int (1 - cd)), _, _, _, X4, rfl, rfl, rfl, (fun h => by cases h), ⟨rfl, q4.trans hh2⟩, fun fs hl => c6.trans (X4.ireturnOut hexec hret (by rcases hc with rfl | rfl <;> rfl) (Or.inr (Or.inl rfl)) (hb hbytes d18) hl)⟩
end IsL
namespace LChA
def yN : MethodName := ⟨"java/lang/StringLatin1", "charAt", "([BI)C"⟩
abbrev yB : ByteArray := jdk_43_method_2_code
theorem d0 : decode yB 0 = .ok (.iload_n 1, 1) := by decide +kernel
theorem d1 : decode yB 1 = .ok (.aload_n 0, 1) := by decide +kernel
theorem d2 : decode yB 2 = .ok (.arraylength, 1) := by decide +kernel
theorem d3 : decode yB 3 = .ok (.invokestatic 9, 3) := by decide +kernel
theorem d6 : decode yB 6 = .ok (.aload_n 0, 1) := by decide +kernel
theorem d7 : decode yB 7 = .ok (.iload_n 1, 1) := by decide +kernel
theorem d8 : decode yB 8 = .ok (.baload, 1) := by decide +kernel
theorem d9 : decode yB 9 = .ok (.sipush 255, 3) := by decide +kernel
theorem d12 : decode yB 12 = .ok (.iand, 1) := by decide +kernel
theorem d13 : decode yB 13 = .ok (.i2c, 1) := by decide +kernel
theorem d14 : decode yB 14 = .ok (.ireturn, 1) := by decide +kernel
def site : List Cond := [JO.Str_checkIndex.tab] ++ staticW "java/lang/StringLatin1" 9 JO.Str_checkIndex.yN
def tab : Cond := tabOf yN yB 2 (some .char) site
def P (t : Addr) (V : Cell) (i : Nat) (u : Int32) (fm : Value) (args : Array Value) (s : State) : Prop := args = #[.ref t, .int (Int32.ofNat i)] ∧ XT.Arr .byte t V s ∧ V.slots[i]? = some (.int u) ∧ (StaticIs s "jdk/internal/util/Preconditions" "SIOOBE_FORMATTER" "Ljava/util/function/BiFunction;" fm ∧ fm.isRef = true)
def E (u : Int32) (r : Option Value) (s w : State) : Prop := XT.PureE (some (.int (chr8 u))) r s w
theorem law (l : Launch) (t : Addr) (V : Cell) (i : Nat) (u : Int32) (fm : Value) : Law l yN 2 2 2 27 yB 2 (some .char) site (P t V i u fm) (E u) [] 0 0 := by
  refine Law.of_walk (plainFor_of_name (by decide +kernel)) (by decide +kernel) (by decide +kernel) (by decide) (fun _ _ h => by rw [h.1]; rfl) (fun _ U U' hal hh h => ⟨h.1, h.2.1.mv hal hh, h.2.2.1, h.2.2.2.1.there hal hh, h.2.2.2.2⟩) (fun r U U' V V' h1 hal h2 h => XT.PureE.mv r U U' V V' h1 hal h2 h) ?_
  intro p e s m args below meth c s₁ X0 hexec hbytes hml hret hlk hnm hown hh0 W hP
  obtain ⟨rfl, hV, hu, s1, rf⟩ := hP
  have v31 := hV.2.2.2
  have hi : i < V.slots.size := (Array.getElem?_eq_some_iff.mp hu).1
  have c1 : Steps p.tables e below (s₁.setTop (entryFrame m #[.ref t, .int (Int32.ofNat i)] 2)) (s₁.setTop (mkF m 0 #[.val (.ref t), .val (.int (Int32.ofNat i))] [])) := entry rfl
  have c2 : Steps p.tables e below (s₁.setTop (entryFrame m #[.ref t, .int (Int32.ofNat i)] 2)) (s₁.setTop (mkF m 3 #[.val (.ref t), .val (.int (Int32.ofNat i))] [.int (Int32.ofNat V.slots.size), .int (Int32.ofNat i)])) := c1.trans (by
    refine XS.iloadN X0.here hexec rfl (hb hbytes d0) rfl ?_
    refine XS.aloadN X0.here hexec rfl (hb hbytes d1) rfl rfl ?_
    refine X0.alen hexec (hV.mv X0.warmed.alike hh0) rfl rfl (hb hbytes d2) ?_
    exact Steps.refl _)
  obtain ⟨v3, T3, X3, E3, g3⟩ := X0.callS hexec (JO.Str_checkIndex.law l (Int32.ofNat i) (Int32.ofNat V.slots.size) fm) hown (wks W (staticW "java/lang/StringLatin1" 9 JO.Str_checkIndex.yN)) (wk W JO.Str_checkIndex.tab) (W := 0) (Nat.le_of_ble_eq_true rfl) (Nat.le_of_ble_eq_true rfl) (Nat.le_refl _) (Nat.le_refl _) (g := (mkF m 3 #[.val (.ref t), .val (.int (Int32.ofNat i))] [.int (Int32.ofNat V.slots.size), .int (Int32.ofNat i)])) rfl (by rw [hml]; rfl) c2 (argsL := [.int (Int32.ofNat i), .int (Int32.ofNat V.slots.size)]) (rest := []) rfl rfl (by show 2 * 0 + 0 ≤ _; decide) (hb hbytes d3) (⟨rfl, rf, s1.there X0.warmed.alike hh0, Int32.ofNat_not_neg (by omega), lt32 v31 hi⟩)
  obtain ⟨rfl, q3⟩ := E3
  have hh3 := q3.trans hh0
  have c4 : Steps p.tables e below (s₁.setTop (entryFrame m #[.ref t, .int (Int32.ofNat i)] 2)) (T3.setTop (mkF m 14 #[.val (.ref t), .val (.int (Int32.ofNat i))] [.int (chr8 u)])) := Steps.trans g3 (by
    refine XS.aloadN X3.here hexec rfl (hb hbytes d6) rfl rfl ?_
    refine XS.iloadN X3.here hexec rfl (hb hbytes d7) rfl ?_
    refine X3.aget hexec (hV.mv X3.warmed.alike hh3) rfl hu rfl rfl (hb hbytes d8) ?_
    refine sipushV X3.here hexec rfl 255 (hb hbytes d9) (by decide) ?_
    refine XS.iand X3.here hexec rfl (hb hbytes d12) rfl ?_
    refine i2c X3.here hexec rfl (hb hbytes d13) rfl ?_
    exact Steps.refl _)
  exact ⟨T3, some (.int (chr8 u)), _, _, _, X3, rfl, rfl, rfl, (fun h => by cases h), ⟨rfl, hh3⟩, fun fs hl => c4.trans (X3.ireturnOut hexec hret (narrow_c _) (Or.inr (Or.inr (Or.inr (Or.inl rfl)))) (hb hbytes d14) hl)⟩
end LChA
end StrChars
namespace StrChars.Road
open Jvm Sem ClassFile Op Lib Jvm.Stand Jvm.Free Jvm.Free.XT
open Jvm.Lib.Cold (StaticIs)
theorem consq {a : Array Value} {s : State} {c : Jvm.Cond} {L : List Jvm.Cond} (h0 : c.before a s = true) (h : ∀ w ∈ L, w.before a s = true) : ∀ w ∈ c :: L, w.before a s = true := fun w hw => (List.mem_cons.mp hw).elim (fun e => e ▸ h0) (h w)
abbrev wordsLen : List Jvm.Cond := [.code Len.yN Len.yB 1 (some .int), .initialized ST, .fieldLink ST 9 ST "value" "[B", .fieldLink ST 38 ST "COMPACT_STRINGS" "Z", .fieldLink ST 15 ST "coder" "B", .code Cdr.yN Cdr.yB 1 (some .byte), .methodLink ST 335 Cdr.yN, .declares Cdr.yN, .selects ST Cdr.yN Cdr.yN, .instanceMethod Cdr.yN]
theorem tabLen_of {a : Array Value} {s : State} (h : ∀ w ∈ wordsLen, w.before a s = true) : Len.tab.before a s = true := by
  have hc : Cdr.tab.before a s = true := unparts (wk h (.code Cdr.yN Cdr.yB 1 (some .byte))) (wks h (.initialized Cdr.yN.cls :: Cdr.site))
  have q := consq hc h
  exact unparts (wk q (.code Len.yN Len.yB 1 (some .int))) (wks q (.initialized Len.yN.cls :: Len.site))
theorem movedLen {Z s : State} {a0 args : Array Value} (hZ : Z.Warmed39 s.vm) (hw : ∀ d ∈ wordsLen, d.before a0 Z = true) : ∀ d ∈ wordsLen, d.before args s = true := fun d hd => by
  have q := hw d hd
  have t : ∀ d ∈ wordsLen, d = .arrayClass .byte ∨ (d.onTables && d.keepsFace) = true := by decide +kernel
  rcases t d hd with rfl | t
  · exact RoadKit.mvA hZ q
  · exact RoadKit.mv hZ q t
def wideBytes : List Int32 → List Value
  | [] => []
  | c :: cs => .int (lo8 c) :: .int (hi8 c) :: wideBytes cs
theorem wide_lo (d : Value) : ∀ (cs : List Int32) (j : Nat), j < cs.length → (wideBytes cs).getD (2 * j) d = .int (lo8 (cs.getD j 0))
  | [], j, h => absurd h (Nat.not_lt_zero j)
  | c :: cs, 0, _ => rfl
  | c :: cs, j + 1, h => by
    have q := wide_lo d cs j (by simpa using h)
    rw [show 2 * (j + 1) = 2 * j + 1 + 1 from by omega]
    simpa [wideBytes] using q
theorem wide_hi (d : Value) : ∀ (cs : List Int32) (j : Nat), j < cs.length → (wideBytes cs).getD (2 * j + 1) d = .int (hi8 (cs.getD j 0))
  | [], j, h => absurd h (Nat.not_lt_zero j)
  | c :: cs, 0, _ => rfl
  | c :: cs, j + 1, h => by
    have q := wide_hi d cs j (by simpa using h)
    rw [show 2 * (j + 1) + 1 = 2 * j + 1 + 1 + 1 from by omega]
    simpa [wideBytes] using q
theorem low_at (d : Value) (cs : List Int32) (j : Nat) (h : j < cs.length) : (cs.map fun c => Value.int (lo8 c)).getD j d = .int (lo8 (cs.getD j 0)) := by
  simp [List.getD_eq_getElem?_getD, h]
def CodA (cs : List Int32) (cd N2 : Int32) (vs : List Value) : Prop := (cd = 0 ∧ N2 = Int32.ofNat cs.length ∧ vs = (cs.map fun c => Value.int (lo8 c)) ∧ ∀ c ∈ cs, ¬ 255 < c) ∨ (cd = 1 ∧ N2 = Int32.ofNat (2 * cs.length) ∧ vs = wideBytes cs ∧ ∃ c ∈ cs, 255 < c)
theorem CodA.cod {cs : List Int32} {cd N2 : Int32} {vs : List Value} {V : Cell} (h : CodA cs cd N2 vs) (hn : 2 * cs.length < 2 ^ 31) (hs : V.slots.size = N2.toNatClampNeg) (hv : RoadKit.Has V vs (.int 0)) : Cod cd cs.length (fun j => cs.getD j 0) V := by
  rcases h with ⟨rfl, rfl, rfl, h⟩ | ⟨rfl, rfl, rfl, c, hc, hw⟩
  · rw [n32 (by omega)] at hs
    exact Or.inl ⟨rfl, hs, fun j hj => ⟨by rw [hv j (by omega), low_at _ _ _ hj], by
      have e : cs.getD j 0 = cs[j] := by simp [List.getD_eq_getElem?_getD, hj]
      show ¬ 255 < cs.getD j 0
      rw [e]; exact h _ (List.getElem_mem _)⟩⟩
  · rw [n32 (by omega)] at hs
    obtain ⟨j, hj, rfl⟩ := List.getElem_of_mem hc
    exact Or.inr ⟨rfl, hs, fun j hj => ⟨by rw [hv _ (by omega), wide_lo _ _ _ hj], by rw [hv _ (by omega), wide_hi _ _ _ hj]⟩, j, hj, by
      have e : cs.getD j 0 = cs[j] := by simp [List.getD_eq_getElem?_getD, hj]
      show 255 < cs.getD j 0
      rw [e]; exact hw⟩
theorem strObj {Z U : State} {a0 : Array Value} {kI : Nat} (wi : (Jvm.Cond.instantiable ST kI).before a0 Z = true) (al : Z.vm.Alike U.vm) {x : Addr} {v0 c0 : Value} (E : RoadKit.Exa Z U.heap x ST) (V : RoadKit.Fld Z U.heap x ST "value" "[B" v0) (C : RoadKit.Fld Z U.heap x ST "coder" "B" c0) :
    ∃ (D : Cell) (fV fC : Field), Blank ST x D U ∧ Found ST "value" "[B" fV U ∧ Found ST "coder" "B" fC U ∧ D.slots[fV.slot]? = some v0 ∧ D.slots[fC.slot]? = some c0 ∧ RoadKit.slotOf Z ST "value" "[B" = fV.slot ∧ RoadKit.slotOf Z ST "coder" "B" = fC.slot := by
  obtain ⟨D, cfV, kV, iV, fV, hD, gV, stV, knV, obV, asV, slV⟩ := V
  obtain ⟨D', cfC, kC, iC, fC, hD', gC, stC, -, -, asC, slC⟩ := C
  cases hD.symm.trans hD'
  obtain ⟨D2, kD, e1, e2, e3, e4, e5⟩ := E
  cases hD.symm.trans e1
  obtain ⟨c2, k2, i1, i2, i3, -⟩ := Cond.instantiable_spec wi
  cases e2.symm.trans i1
  cases e3.symm.trans i2
  obtain ⟨kU, u1, u2⟩ := al.2.2 _ _ e3
  exact ⟨D, fV, fC, ⟨hD, ⟨knV, fun q hq => by rw [hq] at obV; cases obV⟩, by rw [al.findClass]; exact e2, kU, u1, by rw [u2]; exact i3, by rw [u2]; exact e5 i3⟩, ⟨SBG.found_only al ⟨cfV, kV, iV, gV⟩, stV⟩, ⟨SBG.found_only al ⟨cfC, kC, iC, gC⟩, stC⟩, slV, slC, by simp [RoadKit.slotOf, gV], by simp [RoadKit.slotOf, gC]⟩
theorem sta_is {Z U : State} (al : Z.vm.Alike U.vm) {C n d : String} {v : Value} (S : RoadKit.Sta Z U.heap C n d v) : StaticIs U C n d v := by
  obtain ⟨cfS, iS, kS, fS, st, cS, t1, t2, t3, t4, t5, t6, t7⟩ := S
  exact StaticIs.there (s := { Z with heap := U.heap }) ⟨cfS, iS, kS, fS, st, cS, t1, t2, t3, t4, t5, (fun q => by rw [q] at t6; cases t6), t7⟩ al rfl
theorem lenW {p : Program} {l : Launch} {e : Env} {R : Room} {s : State} {args : Array Value} {below : List Frame} {len W : Nat} {Z : State} {a0 : Array Value} {h : Heap} (hZ : Z.Warmed39 s.vm) (hw : ∀ d ∈ wordsLen, d.before a0 Z = true) {kI : Nat} (wi : (Jvm.Cond.instantiable ST kI).before a0 Z = true)
    {x t : Addr} {kb : ClassId} {cs : List Int32} {cd N2 z : Int32} {vs : List Value} (E : RoadKit.Exa Z h x ST) (V : RoadKit.Fld Z h x ST "value" "[B" (.ref t)) (C : RoadKit.Fld Z h x ST "coder" "B" (.int cd)) (K : RoadKit.Arv Z h t kb .byte N2 vs (.int 0)) (hc : CodA cs cd N2 vs) (hb : ∀ c ∈ cs, ¬ c < 0 ∧ ¬ (65535 : Int32) < c)
    (S : RoadKit.Sta Z h ST "COMPACT_STRINGS" "Z" (.int z)) (hz : ¬ z = 0) (l2 : cs.length ≤ 4000) (hfr : 2 ≤ R.frames) (hlo : W + 25 ≤ R.locals) :
    Back l R p e below s args (⟨"java/lang/String", "length", "()I"⟩ : MethodName) len W (fun P a => a = #[.ref x] ∧ P.U.heap = h ∧ P.cells + 0 ≤ R.cells ∧ P.slots + 0 ≤ R.slots)
      (fun P _ v B => ∃ L, (v = some (.int (Int32.ofNat cs.length)) ∧ L = [] ∧ B.U.heap = h) ∧ B.locs = P.locs ++ L ∧ B.cells = P.cells + 0 ∧ B.slots = P.slots + 0) := by
  obtain ⟨A, K1, K2, K3, K4, K5, K6⟩ := K
  have hcod := hc.cod (by omega) K3 K5
  intro m meth c P g ig mk a X hg hsize hdg hW hn hp'
  obtain ⟨rfl, rfl, r1, r2⟩ := hp'
  have al : Z.vm.Alike P.U.vm := hZ.alike.trans X.warmed.alike
  obtain ⟨D, fV, fC, hB, F1, F2, g1, g2, -, -⟩ := strObj wi al E V C
  have hx : Txt x t A cd cs.length (fun j => cs.getD j 0) P.U := ⟨⟨_, hB.2.2.1, D, hB.1, rfl, by cases q : D.vm <;> first | rfl | exact absurd q (hB.2.1.2 _)⟩, Has.of hB F1 g1, Has.of hB F2 g2, ⟨K1.1, State.isArrayOf_alike al K1.2.1, K1.2.2, by rcases hcod with ⟨-, q, -⟩ | ⟨-, q, -⟩ <;> omega⟩, hcod, fun j hj => by
    have e : cs.getD j 0 = cs[j] := by simp [List.getD_eq_getElem?_getD, hj]
    show ¬ cs.getD j 0 < 0 ∧ ¬ 65535 < cs.getD j 0
    rw [e]; exact hb _ (List.getElem_mem _)⟩
  obtain ⟨v, B, X', ⟨⟨hv, hh⟩, hl, hk, hs⟩, st⟩ := Len.pays x t A cd cs.length (fun j => cs.getD j 0) z (tabLen_of (movedLen hZ hw)) hfr hlo m meth c P g ig mk _ X hg hsize hdg hW hn ⟨r1, r2, rfl, hx, sta_is al S, hz⟩
  exact ⟨v, B, X', ⟨[], ⟨hv, rfl, hh⟩, hl, hk, hs⟩, st⟩
end StrChars.Road
namespace StrChars
open Jvm Sem ClassFile Op Lib Jvm.Stand Jvm.Free.XT Jvm.Free.ALB Jvm.Free.JM Jvm.Free
open Jvm.Lib.Cold (StaticIs)
def yv (A : Cell) (i : Nat) : Int32 := match A.slots[i]? with | some (.int x) => x | _ => 0
theorem yv_get {a : Addr} {A : Cell} {U : State} (h : XT.Arr .byte a A U) (ht : Typed .byte A) {i : Nat} (hi : i < A.slots.size) : A.slots[i]? = some (.int (yv A i)) := by
  have e := Array.getElem?_eq_getElem hi
  have f := ht i _ e
  unfold yv; rw [e]
  generalize A.slots[i] = v at f
  cases v <;> simp [fits] at f ⊢
def EqC (A B : Cell) : Prop := A.slots.size = B.slots.size ∧ ∀ i, i < A.slots.size → yv A i = yv B i
def Says01 (q : Prop) (r : Option Value) (s u : State) : Prop := ∃ v : Int32, r = some (.int v) ∧ u.heap = s.heap ∧ ((v = 1 ∧ q) ∨ (v = 0 ∧ ¬ q))
theorem Says01.mv {q : Prop} : ∀ r (U U' V V' : State), U'.heap = U.heap → V.vm.Alike V'.vm → V'.heap = V.heap → Says01 q r U V → Says01 q r U' V' :=
  fun r U U' V V' h1 _ h2 ⟨v, a, b, c⟩ => ⟨v, a, by rw [h1, h2]; exact b, c⟩
namespace LEq
def yN : MethodName := ⟨"java/lang/StringLatin1", "equals", "([B[B)Z"⟩
abbrev yB : ByteArray := jdk_43_method_13_code
theorem d0 : decode yB 0 = .ok (.aload_n 0, 1) := by decide +kernel
theorem d1 : decode yB 1 = .ok (.arraylength, 1) := by decide +kernel
theorem d2 : decode yB 2 = .ok (.aload_n 1, 1) := by decide +kernel
theorem d3 : decode yB 3 = .ok (.arraylength, 1) := by decide +kernel
theorem d4 : decode yB 4 = .ok (.if_icmp (.ne) 30, 3) := by decide +kernel
theorem d7 : decode yB 7 = .ok (.iconst 0, 1) := by decide +kernel
theorem d8 : decode yB 8 = .ok (.istore_n 2, 1) := by decide +kernel
theorem d9 : decode yB 9 = .ok (.iload_n 2, 1) := by decide +kernel
theorem d10 : decode yB 10 = .ok (.aload_n 0, 1) := by decide +kernel
theorem d11 : decode yB 11 = .ok (.arraylength, 1) := by decide +kernel
theorem d12 : decode yB 12 = .ok (.if_icmp (.ge) 20, 3) := by decide +kernel
theorem d15 : decode yB 15 = .ok (.aload_n 0, 1) := by decide +kernel
theorem d16 : decode yB 16 = .ok (.iload_n 2, 1) := by decide +kernel
theorem d17 : decode yB 17 = .ok (.baload, 1) := by decide +kernel
theorem d18 : decode yB 18 = .ok (.aload_n 1, 1) := by decide +kernel
theorem d19 : decode yB 19 = .ok (.iload_n 2, 1) := by decide +kernel
theorem d20 : decode yB 20 = .ok (.baload, 1) := by decide +kernel
theorem d21 : decode yB 21 = .ok (.if_icmp (.eq) 5, 3) := by decide +kernel
theorem d24 : decode yB 24 = .ok (.iconst 0, 1) := by decide +kernel
theorem d25 : decode yB 25 = .ok (.ireturn, 1) := by decide +kernel
theorem d26 : decode yB 26 = .ok (.iinc 2 1, 3) := by decide +kernel
theorem d29 : decode yB 29 = .ok (.goto (-20), 3) := by decide +kernel
theorem d32 : decode yB 32 = .ok (.iconst 1, 1) := by decide +kernel
theorem d33 : decode yB 33 = .ok (.ireturn, 1) := by decide +kernel
theorem d34 : decode yB 34 = .ok (.iconst 0, 1) := by decide +kernel
theorem d35 : decode yB 35 = .ok (.ireturn, 1) := by decide +kernel
def site : List Cond := []
def tab : Cond := tabOf yN yB 3 (some .boolean) site
def P (a : Addr) (A : Cell) (b : Addr) (B : Cell) (args : Array Value) (s : State) : Prop := args = #[.ref a, .ref b] ∧ XT.Arr .byte a A s ∧ Typed .byte A ∧ XT.Arr .byte b B s ∧ Typed .byte B
theorem law (l : Launch) (a : Addr) (A : Cell) (b : Addr) (B : Cell) : Law l yN 2 2 0 0 yB 3 (some .boolean) site (P a A b B) (Says01 (EqC A B)) [] 0 0 := by
  refine Law.of_walk (plainFor_of_name (by decide +kernel)) (by decide +kernel) (by decide +kernel) (by decide) (fun _ _ h => by rw [h.1]; rfl) (fun _ U U' hal hh h => ⟨h.1, h.2.1.mv hal hh, h.2.2.1, h.2.2.2.1.mv hal hh, h.2.2.2.2⟩) (fun r U U' V V' h1 hal h2 h => Says01.mv r U U' V V' h1 hal h2 h) ?_
  intro p e s m args below meth c s₁ X0 hexec hbytes hml hret hlk hnm hown hh0 W hP
  obtain ⟨rfl, hA, tA, hB, tB⟩ := hP
  have a31 := hA.2.2.2
  have b31 := hB.2.2.2
  have hA0 := hA.mv X0.warmed.alike hh0
  have hB0 := hB.mv X0.warmed.alike hh0
  have c1 : Steps p.tables e below (s₁.setTop (entryFrame m #[.ref a, .ref b] 3)) (s₁.setTop (mkF m 0 #[.val (.ref a), .val (.ref b), .unset] [])) := entry rfl
  have c2 : Steps p.tables e below (s₁.setTop (entryFrame m #[.ref a, .ref b] 3)) (s₁.setTop (mkF m 4 #[.val (.ref a), .val (.ref b), .unset] [.int (Int32.ofNat B.slots.size), .int (Int32.ofNat A.slots.size)])) := c1.trans (by
    refine XS.aloadN X0.here hexec rfl (hb hbytes d0) rfl rfl ?_
    refine X0.alen hexec hA0 rfl rfl (hb hbytes d1) ?_
    refine XS.aloadN X0.here hexec rfl (hb hbytes d2) rfl rfl ?_
    refine X0.alen hexec hB0 rfl rfl (hb hbytes d3) ?_
    exact Steps.refl _)
  by_cases hs : A.slots.size = B.slots.size
  · have c3 : Steps p.tables e below (s₁.setTop (entryFrame m #[.ref a, .ref b] 3)) (s₁.setTop (mkF m 9 #[.val (.ref a), .val (.ref b), .val (.int 0)] [])) := c2.trans (by
      refine XS.icmpNo X0.here hexec rfl (hb hbytes d4) rfl (ii_ne_f (by rw [hs])) ?_
      refine iconstV X0.here hexec rfl 0 (hb hbytes d7) (by decide) ?_
      refine XS.istoreN X0.here hexec rfl (hb hbytes d8) rfl rfl ?_
      exact Steps.refl _)
    have loop : ∀ (r i : Nat), i + r = A.slots.size → (∀ j, j < i → yv A j = yv B j) → Steps p.tables e below (s₁.setTop (entryFrame m #[.ref a, .ref b] 3)) (s₁.setTop (mkF m 9 #[.val (.ref a), .val (.ref b), .val (.int (Int32.ofNat i))] [])) → ∃ (pc : Nat) (Ls : Array Slot) (v : Int32), (pc = 25 ∨ pc = 33) ∧ ((v = 1 ∧ EqC A B) ∨ (v = 0 ∧ ¬ EqC A B)) ∧ Steps p.tables e below (s₁.setTop (entryFrame m #[.ref a, .ref b] 3)) (s₁.setTop (mkF m pc Ls [.int v])) := by
      intro r
      induction r with
      | zero =>
        intro i hi he cl
        exact ⟨33, _, 1, Or.inr rfl, Or.inl ⟨rfl, hs, fun j hj => he j (by omega)⟩, cl.trans (by
          refine XS.iloadN X0.here hexec rfl (hb hbytes d9) rfl ?_
          refine XS.aloadN X0.here hexec rfl (hb hbytes d10) rfl rfl ?_
          refine X0.alen hexec hA0 rfl rfl (hb hbytes d11) ?_
          refine XS.icmpYes X0.here hexec rfl (pc0 := 12) rfl (hb hbytes d12) rfl (ii_ge_t (nlt32 (by omega) (by omega))) (by decide) rfl ?_
          refine iconstV X0.here hexec rfl 1 (hb hbytes d32) (by decide) ?_
          exact Steps.refl _)⟩
      | succ r ih =>
        intro i hi he cl
        have c4 : Steps p.tables e below (s₁.setTop (entryFrame m #[.ref a, .ref b] 3)) (s₁.setTop (mkF m 21 #[.val (.ref a), .val (.ref b), .val (.int (Int32.ofNat i))] [.int (yv B i), .int (yv A i)])) := cl.trans (by
          refine XS.iloadN X0.here hexec rfl (hb hbytes d9) rfl ?_
          refine XS.aloadN X0.here hexec rfl (hb hbytes d10) rfl rfl ?_
          refine X0.alen hexec hA0 rfl rfl (hb hbytes d11) ?_
          refine XS.icmpNo X0.here hexec rfl (hb hbytes d12) rfl (ii_ge_f (lt32 (by omega) (by omega))) ?_
          refine XS.aloadN X0.here hexec rfl (hb hbytes d15) rfl rfl ?_
          refine XS.iloadN X0.here hexec rfl (hb hbytes d16) rfl ?_
          refine X0.aget hexec hA0 rfl (yv_get hA tA (i := i) (by omega)) rfl rfl (hb hbytes d17) ?_
          refine XS.aloadN X0.here hexec rfl (hb hbytes d18) rfl rfl ?_
          refine XS.iloadN X0.here hexec rfl (hb hbytes d19) rfl ?_
          refine X0.aget hexec hB0 rfl (yv_get hB tB (i := i) (by omega)) rfl rfl (hb hbytes d20) ?_
          exact Steps.refl _)
        by_cases hv : yv A i = yv B i
        · have c5 : Steps p.tables e below (s₁.setTop (entryFrame m #[.ref a, .ref b] 3)) (s₁.setTop (mkF m 9 #[.val (.ref a), .val (.ref b), .val (.int (Int32.ofNat i + 1))] [])) := c4.trans (by
            refine XS.icmpYes X0.here hexec rfl (pc0 := 21) rfl (hb hbytes d21) rfl (ii_eq_t hv) (by decide) rfl ?_
            refine iincV X0.here hexec rfl 1 (hb hbytes d26) (by decide) rfl rfl ?_
            refine XS.goto X0.here hexec rfl (pc0 := 29) rfl (hb hbytes d29) (by decide) rfl ?_
            exact Steps.refl _)
          rw [succ32] at c5
          exact ih (i + 1) (by omega) (fun j hj => by
            by_cases e : j = i
            · rw [e]; exact hv
            · exact he j (by omega)) c5
        · exact ⟨25, _, 0, Or.inl rfl, Or.inr ⟨rfl, fun q => hv (q.2 i (by omega))⟩, c4.trans (by
            refine XS.icmpNo X0.here hexec rfl (hb hbytes d21) rfl (ii_eq_f hv) ?_
            refine iconstV X0.here hexec rfl 0 (hb hbytes d24) (by decide) ?_
            exact Steps.refl _)⟩
    obtain ⟨pc, Ls, v, hpc, hv, cz⟩ := loop A.slots.size 0 (by omega) (fun j hj => absurd hj (Nat.not_lt_zero j)) c3
    have nv : narrow .boolean (.int v) = .int v := by rcases hv with ⟨rfl, -⟩ | ⟨rfl, -⟩ <;> rfl
    rcases hpc with rfl | rfl
    · exact ⟨s₁, some (.int v), _, _, _, X0, rfl, rfl, rfl, (fun h => by cases h), ⟨v, rfl, hh0, hv⟩, fun fs hl => cz.trans (X0.ireturnOut hexec hret nv (Or.inr (Or.inl rfl)) (hb hbytes d25) hl)⟩
    · exact ⟨s₁, some (.int v), _, _, _, X0, rfl, rfl, rfl, (fun h => by cases h), ⟨v, rfl, hh0, hv⟩, fun fs hl => cz.trans (X0.ireturnOut hexec hret nv (Or.inr (Or.inl rfl)) (hb hbytes d33) hl)⟩
  · have c3 : Steps p.tables e below (s₁.setTop (entryFrame m #[.ref a, .ref b] 3)) (s₁.setTop (mkF m 35 #[.val (.ref a), .val (.ref b), .unset] [.int 0])) := c2.trans (by
      refine XS.icmpYes X0.here hexec rfl (pc0 := 4) rfl (hb hbytes d4) rfl (ii_ne_t (ne32 a31 b31 hs)) (by decide) rfl ?_
      refine iconstV X0.here hexec rfl 0 (hb hbytes d34) (by decide) ?_
      exact Steps.refl _)
    exact ⟨s₁, some (.int 0), _, _, _, X0, rfl, rfl, rfl, (fun h => by cases h), ⟨0, rfl, hh0, Or.inr ⟨rfl, fun q => hs q.1⟩⟩, fun fs hl => c3.trans (X0.ireturnOut hexec hret rfl (Or.inr (Or.inl rfl)) (hb hbytes d35) hl)⟩
end LEq
theorem Cod.ty {cd : Int32} {n : Nat} {f : Nat → Int32} {V : Cell} (h : Cod cd n f V) : Typed .byte V := fun i v hv => by
  have hi : i < V.slots.size := (Array.getElem?_eq_some_iff.mp hv).1
  rcases h with ⟨-, k1, k2⟩ | ⟨-, k1, k2, -⟩
  · rw [(k2 i (by omega)).1] at hv; cases hv; exact fits_lo8 _
  · rcases Nat.mod_two_eq_zero_or_one i with e | e
    · obtain ⟨j, rfl⟩ : ∃ j, i = 2 * j := ⟨i / 2, by omega⟩
      rw [(k2 j (by omega)).1] at hv; cases hv; exact fits_lo8 _
    · obtain ⟨j, rfl⟩ : ∃ j, i = 2 * j + 1 := ⟨i / 2, by omega⟩
      rw [(k2 j (by omega)).2] at hv; cases hv; exact fits_lo8 _
def SameT (n : Nat) (f : Nat → Int32) (k : Nat) (g : Nat → Int32) : Prop := n = k ∧ ∀ j, j < n → f j = g j
theorem lo8_inj {x y : Int32} (h0 : ¬ x < 0) (h1 : ¬ 255 < x) (k0 : ¬ y < 0) (k1 : ¬ 255 < y) (h : lo8 x = lo8 y) : x = y := by
  rw [← lo8_mask h0 h1, ← lo8_mask k0 k1, h]
theorem Cod.eqv {cd : Int32} {n k : Nat} {f g : Nat → Int32} {V V' : Cell} (h : Cod cd n f V) (h' : Cod cd k g V') (hf : ∀ j, j < n → ¬ f j < 0 ∧ ¬ 65535 < f j) (hg : ∀ j, j < k → ¬ g j < 0 ∧ ¬ 65535 < g j) : EqC V V' ↔ SameT n f k g := by
  have yvv : ∀ {W : Cell} {i : Nat} {x : Int32}, W.slots[i]? = some (.int x) → yv W i = x := fun q => by unfold yv; rw [q]
  rcases h with ⟨rfl, k1, k2⟩ | ⟨rfl, k1, k2, -⟩
  · rcases h' with ⟨-, m1, m2⟩ | ⟨e, -⟩
    · constructor
      · rintro ⟨e1, e2⟩
        refine ⟨by omega, fun j hj => ?_⟩
        have q := e2 j (by omega)
        rw [yvv (k2 j hj).1, yvv (m2 j (by omega)).1] at q
        exact lo8_inj (hf j hj).1 (k2 j hj).2 (hg j (by omega)).1 (m2 j (by omega)).2 q
      · rintro ⟨rfl, e2⟩
        refine ⟨by omega, fun j hj => ?_⟩
        rw [yvv (k2 j (by omega)).1, yvv (m2 j (by omega)).1, e2 j (by omega)]
    · exact absurd e (by decide)
  · rcases h' with ⟨e, -⟩ | ⟨-, m1, m2, -⟩
    · exact absurd e (by decide)
    · constructor
      · rintro ⟨e1, e2⟩
        refine ⟨by omega, fun j hj => ?_⟩
        have q1 := e2 (2 * j) (by omega)
        have q2 := e2 (2 * j + 1) (by omega)
        rw [yvv (k2 j hj).1, yvv (m2 j (by omega)).1] at q1
        rw [yvv (k2 j hj).2, yvv (m2 j (by omega)).2] at q2
        rw [← pair_says (hf j hj).1 (hf j hj).2, ← pair_says (hg j (by omega)).1 (hg j (by omega)).2, q1, q2]
      · rintro ⟨rfl, e2⟩
        refine ⟨by omega, fun i hi => ?_⟩
        rcases Nat.mod_two_eq_zero_or_one i with e | e
        · obtain ⟨j, rfl⟩ : ∃ j, i = 2 * j := ⟨i / 2, by omega⟩
          rw [yvv (k2 j (by omega)).1, yvv (m2 j (by omega)).1, e2 j (by omega)]
        · obtain ⟨j, rfl⟩ : ∃ j, i = 2 * j + 1 := ⟨i / 2, by omega⟩
          rw [yvv (k2 j (by omega)).2, yvv (m2 j (by omega)).2, e2 j (by omega)]
theorem Cod.dif {cd cd' : Int32} {n k : Nat} {f g : Nat → Int32} {V V' : Cell} (h : Cod cd n f V) (h' : Cod cd' k g V') (hne : ¬ cd = cd') : ¬ SameT n f k g := by
  rintro ⟨rfl, e⟩
  rcases h with ⟨rfl, -, k2⟩ | ⟨rfl, -, -, j, hj, hw⟩
  · rcases h' with ⟨rfl, -⟩ | ⟨-, -, -, j, hj, hw⟩
    · exact hne rfl
    · exact (k2 j hj).2 (by rw [e j hj]; exact hw)
  · rcases h' with ⟨-, -, m2⟩ | ⟨rfl, -⟩
    · exact (m2 j hj).2 (by rw [← e j hj]; exact hw)
    · exact hne rfl
theorem cinst {p : Program} {l : Launch} {e : Env} {R : Room} {s : State} {m : MethodId} {args : Array Value} {below : List Frame} {meth : Method} {c : Code} {T : State} {locs : List Loc} {cells slots : Nat} (X : Stand p l e R s m args below meth c T locs cells slots) (hexec : p.tables.exec = Jvm.exec) {own C : String} {index : Nat} (hown : s.vm.findClass own = some m.cls) (hlink : (Cond.classLink own index C).before args s = true) {a : Addr} (hE : Exact C a T)
    {g : JFrame} (hg : g.method = m) {rest : List Value} (hstack : g.stack = .ref a :: rest) (hdg : decode c.code g.pc = .ok (.instanceof index, 3)) :
    ∃ T', Stand p l e R s m args below meth c T' locs cells slots ∧ T'.heap = T.heap ∧ ∀ target, Steps p.tables e below (T'.setTop { g with pc := g.pc + 3, stack := .int 1 :: rest }) target → Steps p.tables e below (T.setTop g) target := by
  obtain ⟨cB, h1, D, h2, h3, h4⟩ := hE
  have h1' : s.vm.findClass C = some cB := by rw [← X.warmed.alike.findClass]; exact h1
  obtain ⟨vm', X', st⟩ := X.instanceofYes hexec hown hlink h2 h4 h1' (by rw [h3]; exact Jvm.Free.SB.assignable_self _ _) hg hstack hdg
  exact ⟨_, X', rfl, st⟩
theorem cself {p : Program} {l : Launch} {e : Env} {R : Room} {s : State} {m : MethodId} {args : Array Value} {below : List Frame} {meth : Method} {c : Code} {T : State} {locs : List Loc} {cells slots : Nat} (X : Stand p l e R s m args below meth c T locs cells slots) (hexec : p.tables.exec = Jvm.exec) {own C : String} {index : Nat} (hown : s.vm.findClass own = some m.cls) (hlink : (Cond.classLink own index C).before args s = true) {a : Addr} (hE : Exact C a T)
    {g : JFrame} (hg : g.method = m) {rest : List Value} (hstack : g.stack = .ref a :: rest) (hdg : decode c.code g.pc = .ok (.checkcast index, 3)) :
    ∃ T', Stand p l e R s m args below meth c T' locs cells slots ∧ T'.heap = T.heap ∧ ∀ target, Steps p.tables e below (T'.setTop { g with pc := g.pc + 3, stack := .ref a :: rest }) target → Steps p.tables e below (T.setTop g) target := by
  obtain ⟨cB, h1, D, h2, h3, h4⟩ := hE
  have h1' : s.vm.findClass C = some cB := by rw [← X.warmed.alike.findClass]; exact h1
  obtain ⟨vm', X', st⟩ := X.checkcastYes hexec hown hlink h2 h4 h1' (by rw [h3]; exact Jvm.Free.SB.assignable_self _ _) hg hstack hdg
  exact ⟨_, X', rfl, fun t h => st t (by rw [← hstack] at h; exact h)⟩
namespace SEq
def yN : MethodName := ⟨"java/lang/String", "equals", "(Ljava/lang/Object;)Z"⟩
abbrev yB : ByteArray := jdk_42_method_66_code
theorem d0 : decode yB 0 = .ok (.aload_n 0, 1) := by decide +kernel
theorem d1 : decode yB 1 = .ok (.aload_n 1, 1) := by decide +kernel
theorem d2 : decode yB 2 = .ok (.if_acmp (.ne) 5, 3) := by decide +kernel
theorem d5 : decode yB 5 = .ok (.iconst 1, 1) := by decide +kernel
theorem d6 : decode yB 6 = .ok (.ireturn, 1) := by decide +kernel
theorem d7 : decode yB 7 = .ok (.aload_n 1, 1) := by decide +kernel
theorem d8 : decode yB 8 = .ok (.instanceof 10, 3) := by decide +kernel
theorem d11 : decode yB 11 = .ok (.ifCond (.eq) 43, 3) := by decide +kernel
theorem d14 : decode yB 14 = .ok (.aload_n 1, 1) := by decide +kernel
theorem d15 : decode yB 15 = .ok (.checkcast 10, 3) := by decide +kernel
theorem d18 : decode yB 18 = .ok (.astore_n 2, 1) := by decide +kernel
theorem d19 : decode yB 19 = .ok (.getstatic 38, 3) := by decide +kernel
theorem d22 : decode yB 22 = .ok (.ifCond (.eq) 14, 3) := by decide +kernel
theorem d25 : decode yB 25 = .ok (.aload_n 0, 1) := by decide +kernel
theorem d26 : decode yB 26 = .ok (.getfield 15, 3) := by decide +kernel
theorem d29 : decode yB 29 = .ok (.aload_n 2, 1) := by decide +kernel
theorem d30 : decode yB 30 = .ok (.getfield 15, 3) := by decide +kernel
theorem d33 : decode yB 33 = .ok (.if_icmp (.ne) 21, 3) := by decide +kernel
theorem d36 : decode yB 36 = .ok (.aload_n 0, 1) := by decide +kernel
theorem d37 : decode yB 37 = .ok (.getfield 9, 3) := by decide +kernel
theorem d40 : decode yB 40 = .ok (.aload_n 2, 1) := by decide +kernel
theorem d41 : decode yB 41 = .ok (.getfield 9, 3) := by decide +kernel
theorem d44 : decode yB 44 = .ok (.invokestatic 541, 3) := by decide +kernel
theorem d47 : decode yB 47 = .ok (.ifCond (.eq) 7, 3) := by decide +kernel
theorem d50 : decode yB 50 = .ok (.iconst 1, 1) := by decide +kernel
theorem d51 : decode yB 51 = .ok (.goto 4, 3) := by decide +kernel
theorem d54 : decode yB 54 = .ok (.iconst 0, 1) := by decide +kernel
theorem d55 : decode yB 55 = .ok (.ireturn, 1) := by decide +kernel
def site : List Cond := [.classLink "java/lang/String" 10 "java/lang/String", .fieldLink "java/lang/String" 38 "java/lang/String" "COMPACT_STRINGS" "Z", .fieldLink "java/lang/String" 15 "java/lang/String" "coder" "B", .fieldLink "java/lang/String" 9 "java/lang/String" "value" "[B", LEq.tab] ++ staticW "java/lang/String" 541 LEq.yN
def tab : Cond := tabOf yN yB 3 (some .boolean) site
def P (x t : Addr) (V : Cell) (cd : Int32) (n : Nat) (f : Nat → Int32) (y t' : Addr) (V' : Cell) (cd' : Int32) (k : Nat) (g : Nat → Int32) (z : Int32) (args : Array Value) (s : State) : Prop := args = #[.ref x, .ref y] ∧ Txt x t V cd n f s ∧ Txt y t' V' cd' k g s ∧ StaticIs s "java/lang/String" "COMPACT_STRINGS" "Z" (.int z) ∧ ¬ z = 0
theorem law (l : Launch) (x t : Addr) (V : Cell) (cd : Int32) (n : Nat) (f : Nat → Int32) (y t' : Addr) (V' : Cell) (cd' : Int32) (k : Nat) (g : Nat → Int32) (z : Int32) : Law l yN 2 1 1 14 yB 3 (some .boolean) site (P x t V cd n f y t' V' cd' k g z) (Says01 (SameT n f k g)) [] 0 0 := by
  refine Law.of_walk (plainFor_of_name (by decide +kernel)) (by decide +kernel) (by decide +kernel) (by decide) (fun _ _ h => by rw [h.1]; rfl) (fun _ U U' hal hh h => ⟨h.1, h.2.1.mv hal hh, h.2.2.1.mv hal hh, h.2.2.2.1.there hal hh, h.2.2.2.2⟩) (fun r U U' V V' h1 hal h2 h => Says01.mv r U U' V V' h1 hal h2 h) ?_
  intro p e s m args below meth c s₁ X0 hexec hbytes hml hret hlk hnm hown hh0 W hP
  obtain ⟨rfl, hx, hy, s1, hz⟩ := hP
  have c1 : Steps p.tables e below (s₁.setTop (entryFrame m #[.ref x, .ref y] 3)) (s₁.setTop (mkF m 2 #[.val (.ref x), .val (.ref y), .unset] [.ref y, .ref x])) := Steps.trans (entry rfl) (by
    show Steps p.tables e below (s₁.setTop (mkF m 0 #[.val (.ref x), .val (.ref y), .unset] [])) _
    refine XS.aloadN X0.here hexec rfl (hb hbytes d0) rfl rfl ?_
    refine XS.aloadN X0.here hexec rfl (hb hbytes d1) rfl rfl ?_
    exact Steps.refl _)
  by_cases hxy : x = y
  · have c2 : Steps p.tables e below (s₁.setTop (entryFrame m #[.ref x, .ref y] 3)) (s₁.setTop (mkF m 6 #[.val (.ref x), .val (.ref y), .unset] [.int 1])) := c1.trans (by
      refine acmpNo X0.here hexec rfl (hb hbytes d2) rfl rfl rfl (by simp [acmp, hxy]) ?_
      refine iconstV X0.here hexec rfl 1 (hb hbytes d5) (by decide) ?_
      exact Steps.refl _)
    subst hxy
    have ec : cd = cd' := by
      obtain ⟨D, fd, a1, a2, a3⟩ := hx.2.2.1
      obtain ⟨D', fd', b1, b2, b3⟩ := hy.2.2.1
      cases a1.symm.trans b1
      obtain ⟨q1, q2, q3, q4⟩ := a2.1
      obtain ⟨r1, r2, r3, r4⟩ := b2.1
      cases q4.symm.trans r4
      cases a3.symm.trans b3; rfl
    have et : t = t' := by
      obtain ⟨D, fd, a1, a2, a3⟩ := hx.2.1
      obtain ⟨D', fd', b1, b2, b3⟩ := hy.2.1
      cases a1.symm.trans b1
      obtain ⟨q1, q2, q3, q4⟩ := a2.1
      obtain ⟨r1, r2, r3, r4⟩ := b2.1
      cases q4.symm.trans r4
      cases a3.symm.trans b3; rfl
    subst ec et
    have ev : V = V' := by cases hx.2.2.2.1.1.symm.trans hy.2.2.2.1.1; rfl
    subst ev
    have hs : SameT n f k g := (Cod.eqv hx.2.2.2.2.1 hy.2.2.2.2.1 hx.2.2.2.2.2 hy.2.2.2.2.2).mp ⟨rfl, fun _ _ => rfl⟩
    exact ⟨s₁, some (.int 1), _, _, _, X0, rfl, rfl, rfl, (fun h => by cases h), ⟨1, rfl, hh0, Or.inl ⟨rfl, hs⟩⟩, fun fs hl => c2.trans (X0.ireturnOut hexec hret rfl (Or.inr (Or.inl rfl)) (hb hbytes d6) hl)⟩
  · have c2 : Steps p.tables e below (s₁.setTop (entryFrame m #[.ref x, .ref y] 3)) (s₁.setTop (mkF m 8 #[.val (.ref x), .val (.ref y), .unset] [.ref y])) := c1.trans (by
      refine acmpYes X0.here hexec rfl (pc0 := 2) rfl (hb hbytes d2) rfl rfl rfl (by simp [acmp, hxy]) (by decide) rfl ?_
      refine XS.aloadN X0.here hexec rfl (hb hbytes d7) rfl rfl ?_
      exact Steps.refl _)
    obtain ⟨T3, X3, q3, st3⟩ := cinst X0 hexec hown (wk W (.classLink "java/lang/String" 10 "java/lang/String")) (hy.mv X0.warmed.alike hh0).1 (g := (mkF m 8 #[.val (.ref x), .val (.ref y), .unset] [.ref y])) rfl (rest := []) rfl (hb hbytes d8)
    have hh3 := q3.trans hh0
    have c4 : Steps p.tables e below (s₁.setTop (entryFrame m #[.ref x, .ref y] 3)) (T3.setTop (mkF m 15 #[.val (.ref x), .val (.ref y), .unset] [.ref y])) := (c2.trans (st3 _ (Steps.refl _))).trans (by
      refine XS.ifNo X3.here hexec rfl (hb hbytes d11) rfl (i0_eq_f (by decide)) ?_
      refine XS.aloadN X3.here hexec rfl (hb hbytes d14) rfl rfl ?_
      exact Steps.refl _)
    obtain ⟨T5, X5, q5, st5⟩ := cself X3 hexec hown (wk W (.classLink "java/lang/String" 10 "java/lang/String")) (hy.mv X3.warmed.alike hh3).1 (g := (mkF m 15 #[.val (.ref x), .val (.ref y), .unset] [.ref y])) rfl (rest := []) rfl (hb hbytes d15)
    have hh5 := q5.trans hh3
    have c6 : Steps p.tables e below (s₁.setTop (entryFrame m #[.ref x, .ref y] 3)) (T5.setTop (mkF m 19 #[.val (.ref x), .val (.ref y), .val (.ref y)] [])) := (c4.trans (st5 _ (Steps.refl _))).trans (by
      refine XS.astoreN X5.here hexec rfl (hb hbytes d18) rfl rfl rfl ?_
      exact Steps.refl _)
    obtain ⟨T7, X7, q7, st7⟩ := X5.sget hexec hown (wk W (.fieldLink "java/lang/String" 38 "java/lang/String" "COMPACT_STRINGS" "Z")) s1 (fun _ _ h => by rw [hh5]; exact h) (g := (mkF m 19 #[.val (.ref x), .val (.ref y), .val (.ref y)] [])) rfl (hb hbytes d19)
    have hh7 := q7.trans hh5
    have c8 : Steps p.tables e below (s₁.setTop (entryFrame m #[.ref x, .ref y] 3)) (T7.setTop (mkF m 26 #[.val (.ref x), .val (.ref y), .val (.ref y)] [.ref x])) := (c6.trans (st7 _ (Steps.refl _))).trans (by
      refine XS.ifNo X7.here hexec rfl (hb hbytes d22) rfl (i0_eq_f hz) ?_
      refine XS.aloadN X7.here hexec rfl (hb hbytes d25) rfl rfl ?_
      exact Steps.refl _)
    obtain ⟨T9, X9, q9, st9⟩ := X7.hget hexec hown (wk W (.fieldLink "java/lang/String" 15 "java/lang/String" "coder" "B")) (hx.mv X7.warmed.alike hh7).2.2.1 (g := (mkF m 26 #[.val (.ref x), .val (.ref y), .val (.ref y)] [.ref x])) rfl (rest := []) rfl (hb hbytes d26)
    have hh9 := q9.trans hh7
    have c10 : Steps p.tables e below (s₁.setTop (entryFrame m #[.ref x, .ref y] 3)) (T9.setTop (mkF m 30 #[.val (.ref x), .val (.ref y), .val (.ref y)] [.ref y, .int cd])) := (c8.trans (st9 _ (Steps.refl _))).trans (by
      refine XS.aloadN X9.here hexec rfl (hb hbytes d29) rfl rfl ?_
      exact Steps.refl _)
    obtain ⟨T11, X11, q11, st11⟩ := X9.hget hexec hown (wk W (.fieldLink "java/lang/String" 15 "java/lang/String" "coder" "B")) (hy.mv X9.warmed.alike hh9).2.2.1 (g := (mkF m 30 #[.val (.ref x), .val (.ref y), .val (.ref y)] [.ref y, .int cd])) rfl (rest := [.int cd]) rfl (hb hbytes d30)
    have hh11 := q11.trans hh9
    have c12 : Steps p.tables e below (s₁.setTop (entryFrame m #[.ref x, .ref y] 3)) (T11.setTop (mkF m 33 #[.val (.ref x), .val (.ref y), .val (.ref y)] [.int cd', .int cd])) := c10.trans (st11 _ (Steps.refl _))
    by_cases hcd : cd = cd'
    · subst hcd
      have c13 : Steps p.tables e below (s₁.setTop (entryFrame m #[.ref x, .ref y] 3)) (T11.setTop (mkF m 37 #[.val (.ref x), .val (.ref y), .val (.ref y)] [.ref x])) := c12.trans (by
        refine XS.icmpNo X11.here hexec rfl (hb hbytes d33) rfl (ii_ne_f rfl) ?_
        refine XS.aloadN X11.here hexec rfl (hb hbytes d36) rfl rfl ?_
        exact Steps.refl _)
      obtain ⟨T14, X14, q14, st14⟩ := X11.hget hexec hown (wk W (.fieldLink "java/lang/String" 9 "java/lang/String" "value" "[B")) (hx.mv X11.warmed.alike hh11).2.1 (g := (mkF m 37 #[.val (.ref x), .val (.ref y), .val (.ref y)] [.ref x])) rfl (rest := []) rfl (hb hbytes d37)
      have hh14 := q14.trans hh11
      have c15 : Steps p.tables e below (s₁.setTop (entryFrame m #[.ref x, .ref y] 3)) (T14.setTop (mkF m 41 #[.val (.ref x), .val (.ref y), .val (.ref y)] [.ref y, .ref t])) := (c13.trans (st14 _ (Steps.refl _))).trans (by
        refine XS.aloadN X14.here hexec rfl (hb hbytes d40) rfl rfl ?_
        exact Steps.refl _)
      obtain ⟨T16, X16, q16, st16⟩ := X14.hget hexec hown (wk W (.fieldLink "java/lang/String" 9 "java/lang/String" "value" "[B")) (hy.mv X14.warmed.alike hh14).2.1 (g := (mkF m 41 #[.val (.ref x), .val (.ref y), .val (.ref y)] [.ref y, .ref t])) rfl (rest := [.ref t]) rfl (hb hbytes d41)
      have hh16 := q16.trans hh14
      have c17 : Steps p.tables e below (s₁.setTop (entryFrame m #[.ref x, .ref y] 3)) (T16.setTop (mkF m 44 #[.val (.ref x), .val (.ref y), .val (.ref y)] [.ref t', .ref t])) := c15.trans (st16 _ (Steps.refl _))
      obtain ⟨v18, T18, X18, E18, g18⟩ := X16.callS hexec (LEq.law l t V t' V') hown (wks W (staticW "java/lang/String" 541 LEq.yN)) (wk W LEq.tab) (W := 0) (Nat.le_of_ble_eq_true rfl) (Nat.le_of_ble_eq_true rfl) (Nat.le_refl _) (Nat.le_refl _) (g := (mkF m 44 #[.val (.ref x), .val (.ref y), .val (.ref y)] [.ref t', .ref t])) rfl (by rw [hml]; rfl) c17 (argsL := [.ref t, .ref t']) (rest := []) rfl rfl (by show 2 * 0 + 0 ≤ _; decide) (hb hbytes d44) (⟨rfl, hx.2.2.2.1.mv X16.warmed.alike hh16, hx.2.2.2.2.1.ty, hy.2.2.2.1.mv X16.warmed.alike hh16, hy.2.2.2.2.1.ty⟩)
      obtain ⟨v, rfl, q18, hv⟩ := E18
      have iff := Cod.eqv hx.2.2.2.2.1 hy.2.2.2.2.1 hx.2.2.2.2.2 hy.2.2.2.2.2
      rcases hv with ⟨rfl, he⟩ | ⟨rfl, he⟩
      · have c19 : Steps p.tables e below (s₁.setTop (entryFrame m #[.ref x, .ref y] 3)) (T18.setTop (mkF m 55 #[.val (.ref x), .val (.ref y), .val (.ref y)] [.int 1])) := Steps.trans g18 (by
          refine XS.ifNo X18.here hexec rfl (hb hbytes d47) rfl (i0_eq_f (by decide)) ?_
          refine iconstV X18.here hexec rfl 1 (hb hbytes d50) (by decide) ?_
          refine XS.goto X18.here hexec rfl (pc0 := 51) rfl (hb hbytes d51) (by decide) rfl ?_
          exact Steps.refl _)
        exact ⟨T18, some (.int 1), _, _, _, X18, rfl, rfl, rfl, (fun h => by cases h), ⟨1, rfl, q18.trans hh16, Or.inl ⟨rfl, iff.mp he⟩⟩, fun fs hl => c19.trans (X18.ireturnOut hexec hret rfl (Or.inr (Or.inl rfl)) (hb hbytes d55) hl)⟩
      · have c19 : Steps p.tables e below (s₁.setTop (entryFrame m #[.ref x, .ref y] 3)) (T18.setTop (mkF m 55 #[.val (.ref x), .val (.ref y), .val (.ref y)] [.int 0])) := Steps.trans g18 (by
          refine XS.ifYes X18.here hexec rfl (pc0 := 47) rfl (hb hbytes d47) rfl (i0_eq_t rfl) (by decide) rfl ?_
          refine iconstV X18.here hexec rfl 0 (hb hbytes d54) (by decide) ?_
          exact Steps.refl _)
        exact ⟨T18, some (.int 0), _, _, _, X18, rfl, rfl, rfl, (fun h => by cases h), ⟨0, rfl, q18.trans hh16, Or.inr ⟨rfl, fun q => he (iff.mpr q)⟩⟩, fun fs hl => c19.trans (X18.ireturnOut hexec hret rfl (Or.inr (Or.inl rfl)) (hb hbytes d55) hl)⟩
    · have c13 : Steps p.tables e below (s₁.setTop (entryFrame m #[.ref x, .ref y] 3)) (T11.setTop (mkF m 55 #[.val (.ref x), .val (.ref y), .val (.ref y)] [.int 0])) := c12.trans (by
        refine XS.icmpYes X11.here hexec rfl (pc0 := 33) rfl (hb hbytes d33) rfl (ii_ne_t hcd) (by decide) rfl ?_
        refine iconstV X11.here hexec rfl 0 (hb hbytes d54) (by decide) ?_
        exact Steps.refl _)
      exact ⟨T11, some (.int 0), _, _, _, X11, rfl, rfl, rfl, (fun h => by cases h), ⟨0, rfl, hh11, Or.inr ⟨rfl, Cod.dif hx.2.2.2.2.1 hy.2.2.2.2.1 hcd⟩⟩, fun fs hl => c13.trans (X11.ireturnOut hexec hret rfl (Or.inr (Or.inl rfl)) (hb hbytes d55) hl)⟩
theorem pays {l : Launch} {R : Room} {p : Program} {e : Env} {below : List Frame} {s : State} {sargs : Array Value} {len W : Nat} (x t : Addr) (V : Cell) (cd : Int32) (n : Nat) (f : Nat → Int32) (y t' : Addr) (V' : Cell) (cd' : Int32) (k : Nat) (g : Nat → Int32) (z : Int32) (htab : tab.before sargs s = true) (hfr : 2 ≤ R.frames) (hlo : W + 28 ≤ R.locals) :
    Back l R p e below s sargs yN len W (fun A₁ a₁ => A₁.cells + 0 ≤ R.cells ∧ A₁.slots + 0 ≤ R.slots ∧ P x t V cd n f y t' V' cd' k g z a₁ A₁.U) (fun A₁ _ v₁ B₁ => Says01 (SameT n f k g) v₁ A₁.U B₁.U ∧ B₁.locs = A₁.locs ++ [] ∧ B₁.cells = A₁.cells + 0 ∧ B₁.slots = A₁.slots + 0) :=
  (law l x t V cd n f y t' V' cd' k g z).pays htab hfr (by omega)
end SEq
end StrChars
namespace StrChars.Road
open Jvm Sem ClassFile Op Lib Jvm.Stand Jvm.Free Jvm.Free.XT
open Jvm.Lib.Cold (StaticIs)
abbrev wordsEq : List Jvm.Cond := [.code SEq.yN SEq.yB 3 (some .boolean), .initialized ST, .classLink ST 10 ST, .fieldLink ST 38 ST "COMPACT_STRINGS" "Z", .fieldLink ST 15 ST "coder" "B", .fieldLink ST 9 ST "value" "[B", .methodLink ST 541 LEq.yN, .static LEq.yN, .code LEq.yN LEq.yB 3 (some .boolean), .initialized "java/lang/StringLatin1"]
theorem tabEq_of {a : Array Value} {s : State} (h : ∀ w ∈ wordsEq, w.before a s = true) : SEq.tab.before a s = true := by
  have hl : LEq.tab.before a s = true := unparts (wk h (.code LEq.yN LEq.yB 3 (some .boolean))) (wks h (.initialized LEq.yN.cls :: LEq.site))
  have q := consq hl h
  exact unparts (wk q (.code SEq.yN SEq.yB 3 (some .boolean))) (wks q (.initialized SEq.yN.cls :: SEq.site))
theorem movedEq {Z s : State} {a0 args : Array Value} (hZ : Z.Warmed39 s.vm) (hw : ∀ d ∈ wordsEq, d.before a0 Z = true) : ∀ d ∈ wordsEq, d.before args s = true := fun d hd => by
  have t : ∀ d ∈ wordsEq, (d.onTables && d.keepsFace) = true := by decide +kernel
  exact RoadKit.mv hZ (hw d hd) (t d hd)
theorem txt_of {Z U : State} {a0 : Array Value} {kI : Nat} (wi : (Jvm.Cond.instantiable ST kI).before a0 Z = true) (al : Z.vm.Alike U.vm) {x t : Addr} {kb : ClassId} {cs : List Int32} {cd N2 : Int32} {vs : List Value} (E : RoadKit.Exa Z U.heap x ST) (V : RoadKit.Fld Z U.heap x ST "value" "[B" (.ref t)) (C : RoadKit.Fld Z U.heap x ST "coder" "B" (.int cd)) (K : RoadKit.Arv Z U.heap t kb .byte N2 vs (.int 0)) (hc : CodA cs cd N2 vs) (hb : ∀ c ∈ cs, ¬ c < 0 ∧ ¬ (65535 : Int32) < c) (l2 : cs.length ≤ 4000) :
    ∃ A, Txt x t A cd cs.length (fun j => cs.getD j 0) U := by
  obtain ⟨A, K1, K2, K3, K4, K5, K6⟩ := K
  have hcod := hc.cod (by omega) K3 K5
  obtain ⟨D, fV, fC, hB, F1, F2, g1, g2, -, -⟩ := strObj wi al E V C
  exact ⟨A, ⟨_, hB.2.2.1, D, hB.1, rfl, by cases q : D.vm <;> first | rfl | exact absurd q (hB.2.1.2 _)⟩, Has.of hB F1 g1, Has.of hB F2 g2, ⟨K1.1, State.isArrayOf_alike al K1.2.1, K1.2.2, by rcases hcod with ⟨-, q, -⟩ | ⟨-, q, -⟩ <;> omega⟩, hcod, fun j hj => by
    have e : cs.getD j 0 = cs[j] := by simp [List.getD_eq_getElem?_getD, hj]
    show ¬ cs.getD j 0 < 0 ∧ ¬ 65535 < cs.getD j 0
    rw [e]; exact hb _ (List.getElem_mem _)⟩
theorem same_list (cs ds : List Int32) : SameT cs.length (fun j => cs.getD j 0) ds.length (fun j => ds.getD j 0) ↔ cs = ds := by
  constructor
  · rintro ⟨e, q⟩
    refine List.ext_getElem e fun j h1 h2 => ?_
    have := q j h1
    simpa [List.getD_eq_getElem?_getD, h1, h2] using this
  · rintro rfl
    exact ⟨rfl, fun _ _ => rfl⟩
theorem eqW {p : Program} {l : Launch} {e : Env} {R : Room} {s : State} {args : Array Value} {below : List Frame} {len W : Nat} {Z : State} {a0 : Array Value} {h : Heap} (hZ : Z.Warmed39 s.vm) (hw : ∀ d ∈ wordsEq, d.before a0 Z = true) {kI : Nat} (wi : (Jvm.Cond.instantiable ST kI).before a0 Z = true)
    {x t : Addr} {kb : ClassId} {cs : List Int32} {cd N2 : Int32} {vs : List Value} (E : RoadKit.Exa Z h x ST) (V : RoadKit.Fld Z h x ST "value" "[B" (.ref t)) (C : RoadKit.Fld Z h x ST "coder" "B" (.int cd)) (K : RoadKit.Arv Z h t kb .byte N2 vs (.int 0)) (hc : CodA cs cd N2 vs) (hb : ∀ c ∈ cs, ¬ c < 0 ∧ ¬ (65535 : Int32) < c) (l2 : cs.length ≤ 4000)
    {y t' : Addr} {kb' : ClassId} {ds : List Int32} {cd' N2' : Int32} {vs' : List Value} (E' : RoadKit.Exa Z h y ST) (V' : RoadKit.Fld Z h y ST "value" "[B" (.ref t')) (C' : RoadKit.Fld Z h y ST "coder" "B" (.int cd')) (K' : RoadKit.Arv Z h t' kb' .byte N2' vs' (.int 0)) (hc' : CodA ds cd' N2' vs') (hb' : ∀ c ∈ ds, ¬ c < 0 ∧ ¬ (65535 : Int32) < c) (l2' : ds.length ≤ 4000)
    {z : Int32} (S : RoadKit.Sta Z h ST "COMPACT_STRINGS" "Z" (.int z)) (hz : ¬ z = 0) (hfr : 2 ≤ R.frames) (hlo : W + 28 ≤ R.locals) :
    Back l R p e below s args (⟨"java/lang/String", "equals", "(Ljava/lang/Object;)Z"⟩ : MethodName) len W (fun P a => a = #[.ref x, .ref y] ∧ P.U.heap = h ∧ P.cells + 0 ≤ R.cells ∧ P.slots + 0 ≤ R.slots)
      (fun P _ v B => ∃ L, (((v = some (.int 1) ∧ cs = ds) ∨ (v = some (.int 0) ∧ ¬ cs = ds)) ∧ L = [] ∧ B.U.heap = h) ∧ B.locs = P.locs ++ L ∧ B.cells = P.cells + 0 ∧ B.slots = P.slots + 0) := by
  intro m meth c P g ig mk a X hg hsize hdg hW hn hp'
  obtain ⟨rfl, rfl, r1, r2⟩ := hp'
  have al : Z.vm.Alike P.U.vm := hZ.alike.trans X.warmed.alike
  obtain ⟨A, hx⟩ := txt_of wi al E V C K hc hb l2
  obtain ⟨A', hy⟩ := txt_of wi al E' V' C' K' hc' hb' l2'
  obtain ⟨v, B, X', ⟨⟨w, hv, hh, hq⟩, hl, hk, hs⟩, st⟩ := SEq.pays x t A cd cs.length (fun j => cs.getD j 0) y t' A' cd' ds.length (fun j => ds.getD j 0) z (tabEq_of (movedEq hZ hw)) hfr hlo m meth c P g ig mk _ X hg hsize hdg hW hn ⟨r1, r2, rfl, hx, hy, sta_is al S, hz⟩
  refine ⟨v, B, X', ⟨[], ⟨?_, rfl, hh⟩, hl, hk, hs⟩, st⟩
  rcases hq with ⟨rfl, q⟩ | ⟨rfl, q⟩
  · exact Or.inl ⟨hv, (same_list cs ds).mp q⟩
  · exact Or.inr ⟨hv, fun e => q ((same_list cs ds).mpr e)⟩
end StrChars.Road
namespace StrChars
open Jvm Sem ClassFile Op Lib Jvm.Stand Jvm.Free.XT Jvm.Free.ALB Jvm.Free.JM Jvm.Free
open Jvm.Lib.Cold (StaticIs)
namespace ChN
def yN : MethodName := ⟨"java/lang/String", "charAt", "(I)C"⟩
abbrev yB : ByteArray := jdk_42_method_56_code
theorem d0 : decode yB 0 = .ok (.aload_n 0, 1) := by decide +kernel
theorem d1 : decode yB 1 = .ok (.invokevirtual 492, 3) := by decide +kernel
theorem d4 : decode yB 4 = .ok (.ifCond (.eq) 12, 3) := by decide +kernel
theorem d7 : decode yB 7 = .ok (.aload_n 0, 1) := by decide +kernel
theorem d8 : decode yB 8 = .ok (.getfield 9, 3) := by decide +kernel
theorem d11 : decode yB 11 = .ok (.iload_n 1, 1) := by decide +kernel
theorem d12 : decode yB 12 = .ok (.invokestatic 495, 3) := by decide +kernel
theorem d15 : decode yB 15 = .ok (.ireturn, 1) := by decide +kernel
def site : List Cond := [.fieldLink "java/lang/String" 9 "java/lang/String" "value" "[B", IsL.tab, LChA.tab] ++ virtW "java/lang/String" 492 "java/lang/String" IsL.yN IsL.yN ++ staticW "java/lang/String" 495 LChA.yN
def tab : Cond := tabOf yN yB 2 (some .char) site
def P (x t : Addr) (V : Cell) (n : Nat) (f : Nat → Int32) (z : Int32) (fm : Value) (i : Nat) (args : Array Value) (s : State) : Prop := args = #[.ref x, .int (Int32.ofNat i)] ∧ Txt x t V 0 n f s ∧ i < n ∧ StaticIs s "java/lang/String" "COMPACT_STRINGS" "Z" (.int z) ∧ ¬ z = 0 ∧ StaticIs s "jdk/internal/util/Preconditions" "SIOOBE_FORMATTER" "Ljava/util/function/BiFunction;" fm ∧ fm.isRef = true
def E (f : Nat → Int32) (i : Nat) (r : Option Value) (s u : State) : Prop := XT.PureE (some (.int (f i))) r s u
theorem law (l : Launch) (x t : Addr) (V : Cell) (n : Nat) (f : Nat → Int32) (z : Int32) (fm : Value) (i : Nat) : Law l yN 2 1 3 40 yB 2 (some .char) site (P x t V n f z fm i) (E f i) [] 0 0 := by
  refine Law.of_walk (plainFor_of_name (by decide +kernel)) (by decide +kernel) (by decide +kernel) (by decide) (fun _ _ h => by rw [h.1]; rfl) (fun _ U U' hal hh h => ⟨h.1, h.2.1.mv hal hh, h.2.2.1, h.2.2.2.1.there hal hh, h.2.2.2.2.1, h.2.2.2.2.2.1.there hal hh, h.2.2.2.2.2.2⟩) (fun r U U' V V' h1 hal h2 h => XT.PureE.mv r U U' V V' h1 hal h2 h) ?_
  intro p e s m args below meth c s₁ X0 hexec hbytes hml hret hlk hnm hown hh0 W hP
  obtain ⟨rfl, hx, hi, s1, hz, s3, rf⟩ := hP
  have v31 := hx.2.2.2.1.2.2.2
  have hr := hx.2.2.2.2.2 i hi
  have hx0 := hx.mv X0.warmed.alike hh0
  have c1 : Steps p.tables e below (s₁.setTop (entryFrame m #[.ref x, .int (Int32.ofNat i)] 2)) (s₁.setTop (mkF m 1 #[.val (.ref x), .val (.int (Int32.ofNat i))] [.ref x])) := Steps.trans (entry rfl) (by
    show Steps p.tables e below (s₁.setTop (mkF m 0 #[.val (.ref x), .val (.int (Int32.ofNat i))] [])) _
    refine XS.aloadN X0.here hexec rfl (hb hbytes d0) rfl rfl ?_
    exact Steps.refl _)
  obtain ⟨v2, T2, X2, E2, g2⟩ := X0.callV hexec (IsL.law l x 0 z) hown (wks W (virtW "java/lang/String" 492 "java/lang/String" IsL.yN IsL.yN)) rfl (by decide) (wk W IsL.tab) (W := 0) (Nat.le_of_ble_eq_true rfl) (Nat.le_of_ble_eq_true rfl) (Nat.le_refl _) (Nat.le_refl _) (hx0.1.fc X0.warmed.alike) hx0.1.is (g := (mkF m 1 #[.val (.ref x), .val (.int (Int32.ofNat i))] [.ref x])) rfl (by rw [hml]; rfl) c1 (argsL := []) (rest := []) rfl rfl (by show 2 * 0 + 0 ≤ _; decide) (hb hbytes d1) (⟨rfl, hx0.2.2.1, hx.2.2.2.2.1.cd, s1.there X0.warmed.alike hh0, hz⟩)
  obtain ⟨rfl, q2⟩ := E2
  have hh2 := q2.trans hh0
  have hx2 := hx.mv X2.warmed.alike hh2
  obtain ⟨-, k1, k2⟩ | ⟨k0, -⟩ := hx.2.2.2.2.1
  · have c3 : Steps p.tables e below (s₁.setTop (entryFrame m #[.ref x, .int (Int32.ofNat i)] 2)) (T2.setTop (mkF m 8 #[.val (.ref x), .val (.int (Int32.ofNat i))] [.ref x])) := Steps.trans g2 (by
      refine XS.ifNo X2.here hexec rfl (hb hbytes d4) rfl (i0_eq_f (by decide)) ?_
      refine XS.aloadN X2.here hexec rfl (hb hbytes d7) rfl rfl ?_
      exact Steps.refl _)
    obtain ⟨T4, X4, q4, st4⟩ := X2.hget hexec hown (wk W (.fieldLink "java/lang/String" 9 "java/lang/String" "value" "[B")) hx2.2.1 (g := (mkF m 8 #[.val (.ref x), .val (.int (Int32.ofNat i))] [.ref x])) rfl (rest := []) rfl (hb hbytes d8)
    have hh4 := q4.trans hh2
    have c5 : Steps p.tables e below (s₁.setTop (entryFrame m #[.ref x, .int (Int32.ofNat i)] 2)) (T4.setTop (mkF m 12 #[.val (.ref x), .val (.int (Int32.ofNat i))] [.int (Int32.ofNat i), .ref t])) := (c3.trans (st4 _ (Steps.refl _))).trans (by
      refine XS.iloadN X4.here hexec rfl (hb hbytes d11) rfl ?_
      exact Steps.refl _)
    obtain ⟨v6, T6, X6, E6, g6⟩ := X4.callS hexec (LChA.law l t V i (lo8 (f i)) fm) hown (wks W (staticW "java/lang/String" 495 LChA.yN)) (wk W LChA.tab) (W := 0) (Nat.le_of_ble_eq_true rfl) (Nat.le_of_ble_eq_true rfl) (Nat.le_refl _) (Nat.le_refl _) (g := (mkF m 12 #[.val (.ref x), .val (.int (Int32.ofNat i))] [.int (Int32.ofNat i), .ref t])) rfl (by rw [hml]; rfl) c5 (argsL := [.ref t, .int (Int32.ofNat i)]) (rest := []) rfl rfl (by show 2 * 0 + 0 ≤ _; decide) (hb hbytes d12) (⟨rfl, hx.2.2.2.1.mv X4.warmed.alike hh4, (k2 i hi).1, s3.there X4.warmed.alike hh4, rf⟩)
    obtain ⟨rfl, q6⟩ := E6
    rw [chr8_lo8 hr.1 (k2 i hi).2] at g6
    exact ⟨T6, some (.int (f i)), _, _, _, X6, rfl, rfl, rfl, (fun h => by cases h), ⟨rfl, q6.trans hh4⟩, fun fs hl => Steps.trans g6 (X6.ireturnOut hexec hret (narrow_ch hr.1 hr.2) (Or.inr (Or.inr (Or.inr (Or.inl rfl)))) (hb hbytes d15) hl)⟩
  · exact absurd k0 (by decide)
theorem pays {l : Launch} {R : Room} {p : Program} {e : Env} {below : List Frame} {s : State} {sargs : Array Value} {len W : Nat} (x t : Addr) (V : Cell) (n : Nat) (f : Nat → Int32) (z : Int32) (fm : Value) (i : Nat) (htab : tab.before sargs s = true) (hfr : 4 ≤ R.frames) (hlo : W + 53 ≤ R.locals) :
    Back l R p e below s sargs yN len W (fun A₁ a₁ => A₁.cells + 0 ≤ R.cells ∧ A₁.slots + 0 ≤ R.slots ∧ P x t V n f z fm i a₁ A₁.U) (fun A₁ _ v₁ B₁ => E f i v₁ A₁.U B₁.U ∧ B₁.locs = A₁.locs ++ [] ∧ B₁.cells = A₁.cells + 0 ∧ B₁.slots = A₁.slots + 0) :=
  (law l x t V n f z fm i).pays htab hfr (by omega)
end ChN
end StrChars
namespace StrChars.Road
open Jvm Sem ClassFile Op Lib Jvm.Stand Jvm.Free Jvm.Free.XT
open Jvm.Lib.Cold (StaticIs)
abbrev wordsChN : List Jvm.Cond := [.code ChN.yN ChN.yB 2 (some .char), .initialized ST, .fieldLink ST 9 ST "value" "[B", .fieldLink ST 38 ST "COMPACT_STRINGS" "Z", .fieldLink ST 15 ST "coder" "B", .code IsL.yN IsL.yB 1 (some .boolean), .methodLink ST 492 IsL.yN, .declares IsL.yN, .selects ST IsL.yN IsL.yN, .instanceMethod IsL.yN,
  .methodLink ST 495 LChA.yN, .static LChA.yN, .code LChA.yN LChA.yB 2 (some .char), .initialized "java/lang/StringLatin1", .methodLink "java/lang/StringLatin1" 9 JO.Str_checkIndex.yN, .static JO.Str_checkIndex.yN, .code JO.Str_checkIndex.yN JO.Str_checkIndex.yB 2 none,
  .fieldLink ST 1053 "jdk/internal/util/Preconditions" "SIOOBE_FORMATTER" "Ljava/util/function/BiFunction;", .methodLink ST 1059 JC.PreCheck.yN, .static JC.PreCheck.yN, .code JC.PreCheck.yN JC.PreCheck.yB 3 (some .int), .initialized "jdk/internal/util/Preconditions"]
theorem tabChN_of {a : Array Value} {s : State} (h : ∀ w ∈ wordsChN, w.before a s = true) : ChN.tab.before a s = true := by
  have hp : JC.PreCheck.tab.before a s = true := unparts (wk h (.code JC.PreCheck.yN JC.PreCheck.yB 3 (some .int))) (wks h (.initialized JC.PreCheck.yN.cls :: JC.PreCheck.site))
  have qk := consq hp h
  have hk : JO.Str_checkIndex.tab.before a s = true := unparts (wk qk (.code JO.Str_checkIndex.yN JO.Str_checkIndex.yB 2 none)) (wks qk (.initialized JO.Str_checkIndex.yN.cls :: JO.Str_checkIndex.site))
  have ql := consq hk h
  have hl : LChA.tab.before a s = true := unparts (wk ql (.code LChA.yN LChA.yB 2 (some .char))) (wks ql (.initialized LChA.yN.cls :: LChA.site))
  have hi : IsL.tab.before a s = true := unparts (wk h (.code IsL.yN IsL.yB 1 (some .boolean))) (wks h (.initialized IsL.yN.cls :: IsL.site))
  have q := consq hi (consq hl h)
  exact unparts (wk q (.code ChN.yN ChN.yB 2 (some .char))) (wks q (.initialized ChN.yN.cls :: ChN.site))
theorem movedChN {Z s : State} {a0 args : Array Value} (hZ : Z.Warmed39 s.vm) (hw : ∀ d ∈ wordsChN, d.before a0 Z = true) : ∀ d ∈ wordsChN, d.before args s = true := fun d hd => by
  have t : ∀ d ∈ wordsChN, (d.onTables && d.keepsFace) = true := by decide +kernel
  exact RoadKit.mv hZ (hw d hd) (t d hd)
theorem chN {p : Program} {l : Launch} {e : Env} {R : Room} {s : State} {args : Array Value} {below : List Frame} {len W : Nat} {Z : State} {a0 : Array Value} {h : Heap} (hZ : Z.Warmed39 s.vm) (hw : ∀ d ∈ wordsChN, d.before a0 Z = true) {kI : Nat} (wi : (Jvm.Cond.instantiable ST kI).before a0 Z = true)
    {x t : Addr} {kb : ClassId} {cs : List Int32} {N2 z : Int32} {vs : List Value} {fm : Value} {i : Nat} {j : Int32} (E : RoadKit.Exa Z h x ST) (V : RoadKit.Fld Z h x ST "value" "[B" (.ref t)) (C : RoadKit.Fld Z h x ST "coder" "B" (.int 0)) (K : RoadKit.Arv Z h t kb .byte N2 vs (.int 0)) (hc : CodA cs 0 N2 vs) (hb : ∀ c ∈ cs, ¬ c < 0 ∧ ¬ (65535 : Int32) < c)
    (S : RoadKit.Sta Z h ST "COMPACT_STRINGS" "Z" (.int z)) (hz : ¬ z = 0) (F : RoadKit.Sta Z h "jdk/internal/util/Preconditions" "SIOOBE_FORMATTER" "Ljava/util/function/BiFunction;" fm) (rf : fm.isRef = true) (l2 : cs.length ≤ 4000) (hi : i < cs.length) (hj : j = Int32.ofNat i) (hfr : 4 ≤ R.frames) (hlo : W + 53 ≤ R.locals) :
    Back l R p e below s args (⟨"java/lang/String", "charAt", "(I)C"⟩ : MethodName) len W (fun P a => a = #[.ref x, .int j] ∧ P.U.heap = h ∧ P.cells + 0 ≤ R.cells ∧ P.slots + 0 ≤ R.slots)
      (fun P _ v B => ∃ L, (v = some (.int (cs.getD i 0)) ∧ L = [] ∧ B.U.heap = h) ∧ B.locs = P.locs ++ L ∧ B.cells = P.cells + 0 ∧ B.slots = P.slots + 0) := by
  subst hj
  intro m meth c P g ig mk a X hg hsize hdg hW hn hp'
  obtain ⟨rfl, rfl, r1, r2⟩ := hp'
  have al : Z.vm.Alike P.U.vm := hZ.alike.trans X.warmed.alike
  obtain ⟨A, hx⟩ := txt_of wi al E V C K hc hb l2
  obtain ⟨v, B, X', ⟨⟨hv, hh⟩, hl, hk, hs⟩, st⟩ := ChN.pays x t A cs.length (fun j => cs.getD j 0) z fm i (tabChN_of (movedChN hZ hw)) hfr hlo m meth c P g ig mk _ X hg hsize hdg hW hn ⟨r1, r2, rfl, hx, hi, sta_is al S, hz, sta_is al F, rf⟩
  exact ⟨v, B, X', ⟨[], ⟨hv, rfl, hh⟩, hl, hk, hs⟩, st⟩
theorem codOf {cs : List Int32} {n : Nat} (hn : cs.length = n) (hb : ∀ c ∈ cs, ¬ 255 < c) : CodA cs 0 (Int32.ofNat n) ((cs.map lo8).map Value.int) := Or.inl ⟨rfl, by rw [hn], by simp [List.map_map, Function.comp_def], hb⟩
end StrChars.Road
end Jvm.Pilot.@@N@@

namespace Jvm.Pilot.@@N@@
open Jvm Jvm.ClassFile Sem Op Lib Jvm.Free Jvm.Stand Jvm.LawKit Jvm.RoadKit Bundle Jvm.Pilot.@@N@@.Jvm.D
theorem wd {Z : State} {a0 : Array Value} {d : Jvm.Cond} (hw : ∀ d ∈ tables_1, d.before a0 Z = true) (i : Nat) (h : tables_1[i]? = some d) : d.before a0 Z = true := hw d (List.mem_of_getElem? h)
theorem own_selpriv {s : State} {args : Array Value} {y : MethodName} {n : Nat} (hins : (Jvm.Cond.instantiable y.cls n).before args s = true) (hpriv : (Jvm.Cond.privateMethod y).before args s = true) (hinst : (Jvm.Cond.instanceMethod y).before args s = true) (hy : y.cls ≠ "java/lang/invoke/MethodHandle" ∧ y.cls ≠ "java/lang/invoke/VarHandle") :
    (Jvm.Cond.selects y.cls y y).before args s = true := by
  obtain ⟨c, k, hc, hk, -, hniab, -, -⟩ := Cond.instantiable_spec hins
  have hni : k.isInterface = false := (Bool.or_eq_false_iff.mp hniab).1
  obtain ⟨mk, methM, hnamed, hmethM, -, -⟩ := Cond.instanceMethod_spec hinst
  have hfound : s.methodFound? y.cls y.name y.desc = some mk := State.methodFound?_of_named hnamed hy
  have hcls : mk.cls = c := Option.some.inj ((findClass_of_methodNamed hnamed).symm.trans hc)
  have hsel : selectMethod {} s.vm c mk = .method mk := selectMethod_private hmethM (Cond.privateMethod_at hpriv mk methM hnamed hmethM)
  simp only [Cond.before, Cond.holds, Cond.value, hc, hfound, hnamed, hsel, hcls, hk]
  simp; exact hni
theorem own_nsE {Z : State} {h : Heap} {a : Addr} {C : String} (F : Exa Z h a C) : ∀ c : Cell, h[a]? = some c → c.vm.isStatics = false := by
  obtain ⟨c, k, h1, -, -, h4, -⟩ := F
  intro c' hc; cases h1.symm.trans hc; exact h4
theorem own_nsV {Z : State} {h : Heap} {a : Addr} {k : ClassId} {ty : FieldType} {z : Int32} {vs : List Value} {dv : Value} (F : Arv Z h a k ty z vs dv) : ∀ c : Cell, h[a]? = some c → c.vm.isStatics = false := by
  obtain ⟨c, A, -⟩ := F
  intro c' hc; cases A.1.symm.trans hc; exact A.plain
theorem own_stakeep {Z : State} {h h' : Heap} {C n d : String} {v : Value} {ws : List Addr} (F : Sta Z h C n d v) (K : Keep h h' ws) (q : ∀ x ∈ ws, ∀ c : Cell, h[x]? = some c → c.vm.isStatics = false) : Sta Z h' C n d v := by
  obtain ⟨cf, i, k, f, st, cell, h1, h2, h3, h4, h5, h6, h7⟩ := F
  refine ⟨cf, i, k, f, st, cell, h1, h2, h3, h4, K.2.1 _ _ h5 (fun hm => ?_), h6, h7⟩
  rw [q st hm cell h5] at h6; cases h6
theorem own_ex {args : Array Value} {s : State} {t : Term} {C : String} (h : (Jvm.Cond.exactly t C).value args s none s [] = some true) : ∃ a, t.eval args s none [] s = some (.ref a) ∧ Exa s s.heap a C := by
  obtain ⟨a, e1⟩ := exa_v h; exact ⟨a, e1, Exa.start e1 h⟩
theorem own_evI {args : Array Value} {s : State} {t : Term} {z : Int32} (h : (Jvm.Cond.eq t (.int z)).value args s none s [] = some true) : t.eval args s none [] s = some (.int z) := by
  cases hv : t.eval args s none [] s with
  | none => simp [Cond.value, hv] at h
  | some x => cases x <;> simp [Cond.value, Term.eval, hv] at h ⊢; exact h
theorem own_evJ {args : Array Value} {s : State} {t : Term} {z : Int64} (h : (Jvm.Cond.eq t (.long z)).value args s none s [] = some true) : t.eval args s none [] s = some (.long z) := by
  cases hv : t.eval args s none [] s with
  | none => simp [Cond.value, hv] at h
  | some x => cases x <;> simp [Cond.value, Term.eval, hv] at h ⊢; exact h
theorem own_fldV {args : Array Value} {s : State} {t : Term} {a : Addr} {C n d : String} {v : Value} (ev : t.eval args s none [] s = some (.ref a)) (h : (Term.field t C n d).eval args s none [] s = some v) : Fld s s.heap a C n d v := by
  refine Fld.start ?_
  rw [← fld_at (args := args) (first := s) (o := none) (idx := []) ev]; exact h
theorem own_lt (a b : Int32) : a < b ↔ a.toInt < b.toInt := Int32.lt_iff_toInt_lt
theorem own_le (a b : Int32) : a ≤ b ↔ a.toInt ≤ b.toInt := Int32.le_iff_toInt_le
theorem own_eqi (a b : Int32) : a = b ↔ a.toInt = b.toInt := Int32.toInt_inj.symm
theorem own_ltL (a b : Int64) : a < b ↔ a.toInt < b.toInt := Int64.lt_iff_toInt_lt
theorem own_eqL (a b : Int64) : a = b ↔ a.toInt = b.toInt := Int64.toInt_inj.symm
theorem own_evR {args : Array Value} {s : State} {t u : Term} {a : Addr} (h : (Jvm.Cond.eq t u).value args s none s [] = some true) (hu : u.eval args s none [] s = some (.ref a)) : t.eval args s none [] s = some (.ref a) := by
  cases hv : t.eval args s none [] s with
  | none => simp [Cond.value, hv] at h
  | some x => cases x <;> simp [Cond.value, hu, hv] at h ⊢; exact h
theorem own_len {args : Array Value} {s : State} {t : Term} {a : Addr} {cl : Cell} {z : Int32} (ev : t.eval args s none [] s = some (.ref a)) (hc : s.arrayAt? a = some cl) (h : (Term.length t).eval args s none [] s = some (.int z)) : cl.slots.size < 2 ^ 31 ∧ cl.slots.size.toInt32 = z := by
  by_cases q : cl.slots.size < 2147483648
  · simp [Term.eval, ev, hc, q] at h; exact ⟨q, h⟩
  · simp [Term.eval, ev, hc, q] at h
theorem own_pos (x : Int32) : 0 ≤ (x &&& (2147483647 : Int32)).toInt ∧ (x &&& (2147483647 : Int32)).toInt < 2147483648 := by
  have h := c_mask x 2147483647 31 (by decide) (by decide)
  rw [h]; omega
theorem own_mod4 (x : Int32) : (x &&& (2147483647 : Int32)) % (4 : Int32) = (0 : Int32) ∨ (x &&& (2147483647 : Int32)) % (4 : Int32) = (1 : Int32) ∨ (x &&& (2147483647 : Int32)) % (4 : Int32) = (2 : Int32) ∨ (x &&& (2147483647 : Int32)) % (4 : Int32) = (3 : Int32) := by
  have h := own_pos x
  have q := (c_irem (x &&& (2147483647 : Int32)) (4 : Int32) 4 rfl).1 h.1
  simp only [own_eqi]
  rw [q]
  rw [show (0 : Int32).toInt = 0 from rfl, show (1 : Int32).toInt = 1 from rfl, show (2 : Int32).toInt = 2 from rfl, show (3 : Int32).toInt = 3 from rfl]
  omega

theorem own_mod5 (x : Int32) : (x &&& (2147483647 : Int32)) % (5 : Int32) = (0 : Int32) ∨ (x &&& (2147483647 : Int32)) % (5 : Int32) = (1 : Int32) ∨ (x &&& (2147483647 : Int32)) % (5 : Int32) = (2 : Int32) ∨ (x &&& (2147483647 : Int32)) % (5 : Int32) = (3 : Int32) ∨ (x &&& (2147483647 : Int32)) % (5 : Int32) = (4 : Int32) := by
  have h := own_pos x
  have q := (c_irem (x &&& (2147483647 : Int32)) (5 : Int32) 5 rfl).1 h.1
  simp only [own_eqi]
  rw [q]
  rw [show (0 : Int32).toInt = 0 from rfl, show (1 : Int32).toInt = 1 from rfl, show (2 : Int32).toInt = 2 from rfl, show (3 : Int32).toInt = 3 from rfl, show (4 : Int32).toInt = 4 from rfl]
  omega

theorem own_u16 {cs : List Int32} (hp : ∀ c ∈ cs, ¬ c < 0 ∧ ¬ (255 : Int32) < c) : ∀ c ∈ cs, ¬ c < 0 ∧ ¬ (65535 : Int32) < c := fun c hc => by
  have q := hp c hc
  simp only [own_lt, show (255 : Int32).toInt = 255 from rfl, show (65535 : Int32).toInt = 65535 from rfl] at *
  omega
theorem own_al0 {P : Int32 → Prop} : ∀ c ∈ ([] : List Int32), P c := fun _ h => nomatch h
theorem own_alS {P : Int32 → Prop} {a : Int32} {L : List Int32} (h : P a) (r : ∀ c ∈ L, P c) : ∀ c ∈ a :: L, P c := fun c hc => (List.mem_cons.mp hc).elim (fun e => e ▸ h) (r c)
theorem own_narC (x : Int32) (h : ¬ x < 0 ∧ ¬ (255 : Int32) < x) : nar .char x = x := by
  have c1 := c_i2c x
  show x.toUInt32.toUInt16.toUInt32.toInt32 = x
  simp only [own_lt, own_eqi, show (0 : Int32).toInt = 0 from rfl, show (255 : Int32).toInt = 255 from rfl] at *
  omega
theorem own_i2c (x : Int32) (h : ¬ x < 0 ∧ ¬ (255 : Int32) < x) : x.toUInt32.toUInt16.toUInt32.toInt32 = x := own_narC x h
theorem own_m255 (x : Int32) : ¬ ((x &&& (255 : Int32)) < (0 : Int32)) ∧ ¬ ((255 : Int32) < (x &&& (255 : Int32))) := by
  have h := c_mask x 255 8 (by decide) (by decide)
  simp only [own_lt, h, show (0 : Int32).toInt = 0 from rfl, show (255 : Int32).toInt = 255 from rfl]; omega
theorem own_m3 (x : Int32) : (x &&& (3 : Int32)) = (0 : Int32) ∨ (x &&& (3 : Int32)) = (1 : Int32) ∨ (x &&& (3 : Int32)) = (2 : Int32) ∨ (x &&& (3 : Int32)) = (3 : Int32) := by
  have h := c_mask x 3 2 (by decide) (by decide)
  simp only [own_eqi, h, show (0 : Int32).toInt = 0 from rfl, show (1 : Int32).toInt = 1 from rfl, show (2 : Int32).toInt = 2 from rfl, show (3 : Int32).toInt = 3 from rfl]; omega
theorem own_nth1 {a b : Int32} {L M : List Int32} (h : a :: L = b :: M) : a = b := (List.cons.inj h).1
theorem own_nth2 {a b a' b' : Int32} {L M : List Int32} (h : a' :: a :: L = b' :: b :: M) : a = b := (List.cons.inj (List.cons.inj h).2).1
theorem own_nth3 {a b a' b' a2 b2 : Int32} {L M : List Int32} (h : a2 :: a' :: a :: L = b2 :: b' :: b :: M) : a = b := (List.cons.inj (List.cons.inj (List.cons.inj h).2).2).1

theorem own_sub_backV : ∀ d ∈ StrChars.Road.words, d ∈ tables_1 := by decide +kernel
theorem own_sub_lenW : ∀ d ∈ StrChars.Road.wordsLen, d ∈ tables_1 := by decide +kernel
theorem own_sub_chN : ∀ d ∈ StrChars.Road.wordsChN, d ∈ tables_1 := by decide +kernel
theorem own_sub_eqW : ∀ d ∈ StrChars.Road.wordsEq, d ∈ tables_1 := by decide +kernel
def own_LR : List Int32 := [114, 101, 115, 112, 111, 110, 115, 101, 95, 116, 105, 109, 101, 95, 109, 115]
theorem own_lsR : (List.map Value.int (List.map (fun c => c.toInt8.toInt32) own_LR)) = [(.int (114 : Int32)), (.int (101 : Int32)), (.int (115 : Int32)), (.int (112 : Int32)), (.int (111 : Int32)), (.int (110 : Int32)), (.int (115 : Int32)), (.int (101 : Int32)), (.int (95 : Int32)), (.int (116 : Int32)), (.int (105 : Int32)), (.int (109 : Int32)), (.int (101 : Int32)), (.int (95 : Int32)), (.int (109 : Int32)), (.int (115 : Int32))] := by decide +kernel
theorem own_alR : ∀ c ∈ own_LR, ¬ c < 0 ∧ ¬ (255 : Int32) < c := by decide
theorem own_bdR : ∀ c ∈ own_LR, ¬ c < 0 ∧ ¬ (65535 : Int32) < c := own_u16 own_alR
theorem own_codR : StrChars.Road.CodA own_LR 0 (16 : Int32) [(.int (114 : Int32)), (.int (101 : Int32)), (.int (115 : Int32)), (.int (112 : Int32)), (.int (111 : Int32)), (.int (110 : Int32)), (.int (115 : Int32)), (.int (101 : Int32)), (.int (95 : Int32)), (.int (116 : Int32)), (.int (105 : Int32)), (.int (109 : Int32)), (.int (101 : Int32)), (.int (95 : Int32)), (.int (109 : Int32)), (.int (115 : Int32))] := own_lsR ▸ StrChars.Road.codOf (cs := own_LR) (n := 16) rfl (fun c hc => (own_alR c hc).2)
def own_LT : List Int32 := [116, 104, 114, 111, 117, 103, 104, 112, 117, 116, 95, 112, 101, 114, 95, 115]
theorem own_lsT : (List.map Value.int (List.map (fun c => c.toInt8.toInt32) own_LT)) = [(.int (116 : Int32)), (.int (104 : Int32)), (.int (114 : Int32)), (.int (111 : Int32)), (.int (117 : Int32)), (.int (103 : Int32)), (.int (104 : Int32)), (.int (112 : Int32)), (.int (117 : Int32)), (.int (116 : Int32)), (.int (95 : Int32)), (.int (112 : Int32)), (.int (101 : Int32)), (.int (114 : Int32)), (.int (95 : Int32)), (.int (115 : Int32))] := by decide +kernel
theorem own_alT : ∀ c ∈ own_LT, ¬ c < 0 ∧ ¬ (255 : Int32) < c := by decide
theorem own_bdT : ∀ c ∈ own_LT, ¬ c < 0 ∧ ¬ (65535 : Int32) < c := own_u16 own_alT
theorem own_codT : StrChars.Road.CodA own_LT 0 (16 : Int32) [(.int (116 : Int32)), (.int (104 : Int32)), (.int (114 : Int32)), (.int (111 : Int32)), (.int (117 : Int32)), (.int (103 : Int32)), (.int (104 : Int32)), (.int (112 : Int32)), (.int (117 : Int32)), (.int (116 : Int32)), (.int (95 : Int32)), (.int (112 : Int32)), (.int (101 : Int32)), (.int (114 : Int32)), (.int (95 : Int32)), (.int (115 : Int32))] := own_lsT ▸ StrChars.Road.codOf (cs := own_LT) (n := 16) rfl (fun c hc => (own_alT c hc).2)
def own_LC : List Int32 := [99, 111, 115, 116]
theorem own_lsC : (List.map Value.int (List.map (fun c => c.toInt8.toInt32) own_LC)) = [(.int (99 : Int32)), (.int (111 : Int32)), (.int (115 : Int32)), (.int (116 : Int32))] := by decide +kernel
theorem own_alC : ∀ c ∈ own_LC, ¬ c < 0 ∧ ¬ (255 : Int32) < c := by decide
theorem own_bdC : ∀ c ∈ own_LC, ¬ c < 0 ∧ ¬ (65535 : Int32) < c := own_u16 own_alC
theorem own_codC : StrChars.Road.CodA own_LC 0 (4 : Int32) [(.int (99 : Int32)), (.int (111 : Int32)), (.int (115 : Int32)), (.int (116 : Int32))] := own_lsC ▸ StrChars.Road.codOf (cs := own_LC) (n := 4) rfl (fun c hc => (own_alC c hc).2)
theorem own_ltT : ¬ own_LT = own_LR := by decide
theorem own_ltC : ¬ own_LC = own_LR := by decide
theorem own_ltD : ¬ own_LC = own_LT := by decide
theorem own_codG {la : List Int32} {nz : Int32} (h : nz = Int32.ofNat la.length) (hb : ∀ c ∈ la, ¬ c < 0 ∧ ¬ (255 : Int32) < c) : StrChars.Road.CodA la 0 nz (List.map Value.int (List.map (fun c => c.toInt8.toInt32) la)) := by
  subst h; exact StrChars.Road.codOf rfl (fun c hc => (hb c hc).2)
theorem own_orT {v : Option Value} {A : Prop} (h : (v = some (.int 1) ∧ A) ∨ (v = some (.int 0) ∧ ¬ A)) (a : A) : v = some (.int (1 : Int32)) := h.elim (fun q => q.1) (fun q => absurd a q.2)
theorem own_orF {v : Option Value} {A : Prop} (h : (v = some (.int 1) ∧ A) ∨ (v = some (.int 0) ∧ ¬ A)) (a : ¬ A) : v = some (.int (0 : Int32)) := h.elim (fun q => absurd q.2 a) (fun q => q.1)
theorem own_tnlt {j z : Int32} (h0 : ¬ j < 0) (h1 : j < z) : j.toNatClampNeg < z.toNatClampNeg := by
  simp only [own_lt, show (0 : Int32).toInt = 0 from rfl] at *
  simp only [Int32.toNatClampNeg]; omega
theorem own_setL {Z : State} {h h' : Heap} {a : Addr} {c : Cell} {k : ClassId} {z v j : Int32} {ca : List Int32} {d : Value} (A : Arr Z h a c .char) (q1 : c.cls = k) (S : c.slots.size = z.toNatClampNeg) (q3 : ¬ z < 0) (H : Has c (List.map Value.int ca) d) (G : ∀ i, i < c.slots.size → fits .char ((List.map Value.int ca).getD i d) = true) (hv : ¬ v < 0 ∧ ¬ (255 : Int32) < v) (W : Wr h h' a j.toNatClampNeg (.int (nar .char v))) (hl : ca.length = z.toNatClampNeg) (h0 : ¬ j < 0) (h1 : j < z) :
    Arv Z h' a k .char z (List.map Value.int (ca.set j.toNatClampNeg v)) d := by
  have hi : j.toNatClampNeg < (List.map Value.int ca).length := by rw [List.length_map, hl]; exact own_tnlt h0 h1
  have hf := fits_nar_char v
  rw [own_narC _ hv] at W hf
  rw [List.map_set]
  exact Arv.set A q1 S q3 H G hf W j.toNatClampNeg rfl hi
theorem own_setlen {ca : List Int32} {n i : Nat} {v : Int32} (h : ca.length = n) : (ca.set i v).length = n := by rw [List.length_set]; exact h
theorem own_setall {ca : List Int32} {i : Nat} {v : Int32} {P : Int32 → Prop} (h : ∀ c ∈ ca, P c) (hv : P v) : ∀ c ∈ ca.set i v, P c := fun c hc => (List.mem_or_eq_of_mem_set hc).elim (h c) (fun e => e ▸ hv)
theorem own_getr {ls : List Int32} {i : Nat} (h : ∀ c ∈ ls, ¬ c < 0 ∧ ¬ (255 : Int32) < c) : ¬ (ls.getD i 0) < 0 ∧ ¬ (255 : Int32) < ls.getD i 0 := by
  by_cases q : i < ls.length
  · rw [List.getD_eq_getElem?_getD, List.getElem?_eq_getElem q]; exact h _ (List.getElem_mem _)
  · rw [List.getD_eq_getElem?_getD, List.getElem?_eq_none (Nat.le_of_not_lt q)]; decide
theorem own_ofn (j : Int32) (h0 : ¬ j < 0) : j = Int32.ofNat j.toNatClampNeg := (back32 h0).1.symm
theorem own_iltg {j : Int32} {n : Nat} (h0 : ¬ j < 0) (h1 : j < Int32.ofNat n) (hn : n ≤ 4000) : j.toNatClampNeg < n := by
  have e : (Int32.ofNat n).toInt = n := Int32.toInt_ofNat_of_lt (by omega)
  simp only [own_lt, e, show (0 : Int32).toInt = 0 from rfl] at *
  simp only [Int32.toNatClampNeg]; omega
theorem own_ji4 (x : Int32) : ¬ ((x &&& (2147483647 : Int32)) % (4 : Int32)) < (0 : Int32) ∧ ((x &&& (2147483647 : Int32)) % (4 : Int32)) < (4 : Int32) := by
  have h := c_mask x 2147483647 31 (by decide) (by decide)
  have q := (c_irem (x &&& (2147483647 : Int32)) (4 : Int32) 4 rfl).1 (by rw [h]; omega)
  simp only [own_lt, q, h, show (4 : Int32).toInt = 4 from rfl, show (0 : Int32).toInt = 0 from rfl]
  omega
theorem own_ji16 (x : Int32) : ¬ ((x &&& (2147483647 : Int32)) % (16 : Int32)) < (0 : Int32) ∧ ((x &&& (2147483647 : Int32)) % (16 : Int32)) < (16 : Int32) := by
  have h := c_mask x 2147483647 31 (by decide) (by decide)
  have q := (c_irem (x &&& (2147483647 : Int32)) (16 : Int32) 16 rfl).1 (by rw [h]; omega)
  simp only [own_lt, q, h, show (16 : Int32).toInt = 16 from rfl, show (0 : Int32).toInt = 0 from rfl]
  omega
theorem own_safe_null {Z : State} {EL : List (String × Nat)} {vm : Vm} {h : Heap} {a : Addr} (hal : Z.vm.Alike vm) (H : CHv Z EL vm h) (E : Exa Z h a "java/lang/String") (F : Fld Z h a "java/lang/String" "value" "[B" .null) : Safe Z EL vm h a := fun B => by
  obtain ⟨p, -, u, a', -, q, -, F', hy⟩ := B
  obtain ⟨cS, ⟨⟨s1, s2, s3, ⟨cv, kv, iv, s4, s4'⟩, ⟨cc, kc, ic, s5, s5'⟩, s6, s7, s8, s9, s10, s11, -⟩, hfS, hcS⟩, -, hB, -⟩ := F'
  obtain ⟨kv', z4⟩ := ff_back (U := Wst Z vm h) hal s4
  have z4 : Z.fieldFound? "java/lang/String" "value" "[B" = some (cv, kv', iv, q.fSV) := z4
  rcases hy with rfl | rfl
  · obtain ⟨cell, cf, k, i, f, h1, h2, h3, -, -, -, h7⟩ := F
    have e1 : cell = q.sC := Option.some.inj (h1.symm.trans s1)
    rw [z4] at h2
    cases h2
    rw [e1, s8] at h7
    cases h7
  · obtain ⟨cell, k, h1, h2, -⟩ := E
    have e1 : cell = q.SA := Option.some.inj (h1.symm.trans s10)
    have hB : vm.findClass "[B" = some q.SA.cls := hB
    rw [hal.findClass] at hB
    rw [e1] at h2
    obtain ⟨k1, g1, g2⟩ := Vm.findClass_spec h2
    obtain ⟨k2, g3, g4⟩ := Vm.findClass_spec hB
    rw [Option.some.inj (g1.symm.trans g3), g4] at g2
    exact absurd g2 (by decide)
theorem pn_0 : plainName "java/lang/String" = true := by first | (simp [plainName, overriddenIn]; done) | decide +kernel
theorem d1_0 : decode jdk_42_method_149_code 0 = .ok (.aload_n 0, 1) := by decide +kernel
theorem d1_1 : decode jdk_42_method_149_code 1 = .ok (.invokespecial 1, 3) := by decide +kernel
theorem d1_4 : decode jdk_42_method_149_code 4 = .ok (.iload_n 3, 1) := by decide +kernel
theorem d1_5 : decode jdk_42_method_149_code 5 = .ok (.ifCond .ne 22, 3) := by decide +kernel
theorem d1_8 : decode jdk_42_method_149_code 8 = .ok (.aload_n 0, 1) := by decide +kernel
theorem d1_9 : decode jdk_42_method_149_code 9 = .ok (.ldc 7, 2) := by decide +kernel
theorem d1_11 : decode jdk_42_method_149_code 11 = .ok (.getfield 9, 3) := by decide +kernel
theorem d1_14 : decode jdk_42_method_149_code 14 = .ok (.putfield 9, 3) := by decide +kernel
theorem d1_17 : decode jdk_42_method_149_code 17 = .ok (.aload_n 0, 1) := by decide +kernel
theorem d1_18 : decode jdk_42_method_149_code 18 = .ok (.ldc 7, 2) := by decide +kernel
theorem d1_20 : decode jdk_42_method_149_code 20 = .ok (.getfield 15, 3) := by decide +kernel
theorem d1_23 : decode jdk_42_method_149_code 23 = .ok (.putfield 15, 3) := by decide +kernel
theorem d1_26 : decode jdk_42_method_149_code 26 = .ok (.return_, 1) := by decide +kernel
theorem ef_1 (m : MethodId) (a1_0 : Addr) (a1_1 : Addr) : entryFrame m #[(.ref a1_0), (.ref a1_1), (.int (0 : Int32)), (.int (0 : Int32)), .null] 6 = mkF m 0 #[.val (.ref a1_0), .val (.ref a1_1), .val (.int (0 : Int32)), .val (.int (0 : Int32)), .val .null, .unset] [] := by first | (simp [entryFrame, mkF, argsToLocals, Value.category]; done) | rfl
def Q1 (Z : State) (a1_0 : Addr) (a1_1 : Addr) (h0 : Heap) (n0 : Nat) (v : Option Value) (h : Heap) (L : List Loc) : Prop := ∃ d1 : Nat, ∃ kv1 : ClassId, v = none ∧ Fr n0 L ∧ Keep h0 h [a1_0] ∧ Exa Z h a1_0 "java/lang/String" ∧ Fld Z h a1_0 "java/lang/String" "value" "[B" (.ref d1) ∧ Fld Z h a1_0 "java/lang/String" "coder" "B" (.int (0 : Int32)) ∧ Arv Z h d1 kv1 .byte (0 : Int32) [] (.int (0 : Int32))
set_option maxRecDepth 65536 in
set_option maxHeartbeats 40000000 in
theorem rm1 (l : Launch) (Z : State) (a0 : Array Value) (hw : ∀ d ∈ tables_1, d.before a0 Z = true) (ws : List Jvm.Cond) (hEL : EW Z a0 consts_1) (wS : ∀ a ∈ Bundle.stringAtoms, a.before a0 Z = true) (a1_0 : Addr) (a1_1 : Addr) (h0 : Heap) (n0 : Nat) (Z0 : n0 ≤ h0.size) (Ea : Exa Z h0 a1_0 "java/lang/String") (Fv : Fld Z h0 a1_0 "java/lang/String" "value" "[B" .null) (Fc : Fld Z h0 a1_0 "java/lang/String" "coder" "B" (.int (0 : Int32))) (g_a1_0 : n0 ≤ a1_0) :
    MetFree l (⟨"java/lang/String", "<init>", "([CIILjava/lang/Void;)V"⟩ : MethodName) (head1 (Jvm.Cond.code (⟨"java/lang/String", "<init>", "([CIILjava/lang/Void;)V"⟩ : MethodName) jdk_42_method_149_code 6 none :: ws) ({ frames := 1, cells := 4, slots := 8, locals := 12 } : Room)) (fun a U => a = #[(.ref a1_0), (.ref a1_1), (.int (0 : Int32)), (.int (0 : Int32)), .null] ∧ Z.Warmed39 U.vm ∧ U.heap = h0 ∧ CHv Z consts_1 U.vm h0) (fun _ _ _ _ _ => True) (fun _ U o U' => ∃ v L, o = .returned v ∧ Q1 Z a1_0 a1_1 h0 n0 v U'.heap L ∧ CHr Z consts_1 U.vm U.heap U'.vm U'.heap ∧ ReturnedEndW U o U' L ({ frames := 1, cells := 4, slots := 8, locals := 12 } : Room).cells ({ frames := 1, cells := 4, slots := 8, locals := 12 } : Room).slots) := by
  refine MetFree.of_bodySF (plainFor_of_name pn_0) hisR ?_
  intro p e s m args below meth c s₁ Bd hml0 hP hK
  obtain ⟨rfl, hZ, hh, hCH⟩ := hP
  have hx := Bd.exec
  have hby := Bd.bytes
  have hml : c.maxLocals = 6 := hml0
  have hown : s.vm.findClass "java/lang/String" = some m.cls := findClass_of_methodNamed Bd.named
  have hnm := (name_of_methodNamed Bd.named Bd.method).1
  have X0 : Stand p l e ({ frames := 1, cells := 4, slots := 8, locals := 12 } : Room) (s.setVm s.vm) m #[(.ref a1_0), (.ref a1_1), (.int (0 : Int32)), (.int (0 : Int32)), .null] below meth c s₁ [] 0 0 := Stand.of_body Bd
  have e0 : s₁.heap = h0 := by rw [← hh, Bd.state]; rfl
  have N0 := Fr.nil n0
  have hS : s.Since s.vm h0.size := (State.WarmedH.refl s).since _
  have hk : h0.size ≤ h0.size := Nat.le_refl _
  have hCR : CHr Z consts_1 s.vm h0 s.vm h0 := CHr.refl hCH
  have pre0 : ∀ t, Steps p.tables e below (s₁.setTop (mkF m 0 #[.val (.ref a1_0), .val (.ref a1_1), .val (.int (0 : Int32)), .val (.int (0 : Int32)), .val .null, .unset] [])) t → Steps p.tables e below (s₁.setTop (entryFrame m #[(.ref a1_0), (.ref a1_1), (.int (0 : Int32)), (.int (0 : Int32)), .null] 6)) t := fun t k => castTop (ef_1 m a1_0 a1_1) k
  obtain ⟨T1, X1, e1, st1⟩ := initO X0 hx hZ hown (wd hw 60 rfl) (wd hw 61 rfl) (wd hw 62 rfl) e0 (g := (mkF m 1 #[.val (.ref a1_0), .val (.ref a1_1), .val (.int (0 : Int32)), .val (.int (0 : Int32)), .val .null, .unset] [(.ref a1_0)])) rfl (by rw [hml]; rfl) rfl (hb hby d1_1) (by decide) (W := 0) (by show 2 * 0 + _ ≤ _; exact Nat.le_of_eq rfl) (by decide)
  have sfa := own_safe_null hZ.alike hCR.1 Ea Fv
  obtain ⟨b2, T2, h2, k2, d2, kb2, X2, e2, E2, hS, hk, hZ, hown, Ex2, Fc2, Fv2, V2, lta2, ltb2, hC2, hL2, hsf2, st2⟩ := ldcCH X1 hx hZ hown (wd hw 141 rfl) wS e1 hS hk hEL (List.mem_of_getElem? (i := 3) rfl) hCR.1 (vs := []) (z := (0 : Int32)) ⟨by decide, rfl⟩ (by decide) rfl (g := (mkF m 9 #[.val (.ref a1_0), .val (.ref a1_1), .val (.int (0 : Int32)), .val (.int (0 : Int32)), .val .null, .unset] [(.ref a1_0)])) rfl (hb hby d1_9) (n := 0) (by decide) (by decide) (by decide) (by decide)
  have sf3 := hC2.safe Ea.lt sfa
  have hCR := hCR.trans hC2
  have Zs2 : n0 ≤ h2.size := Nat.le_trans Z0 E2.1
  have K2 : Keep h0 h2 [a1_0] := (Keep.refl h0 [a1_0]).ext E2
  have F4 := Ea.ext E2
  have F5 := Fv.ext E2
  have F6 := Fc.ext E2
  have ne7 := hsf2 _ sf3
  obtain ⟨T8, X8, e8, st8⟩ := getF X2 hx hZ hown (host := "") (Or.inl (wd hw 14 rfl)) Via.refl e2 Fv2 (g := (mkF m 11 #[.val (.ref a1_0), .val (.ref a1_1), .val (.int (0 : Int32)), .val (.int (0 : Int32)), .val .null, .unset] [(.ref b2), (.ref a1_0)])) rfl rfl (hb hby d1_11)
  obtain ⟨T9, h9, X9, e9, W9, st9⟩ := putF X8 hx hZ hown (host := "") (Or.inl (wd hw 14 rfl)) Via.refl e8 F5 F4 (Or.inr ⟨(wd hw 5 rfl), rfl, hnm⟩) (wd hw 3 rfl) (ty := (.array .byte)) (by decide) rfl rfl (g := (mkF m 14 #[.val (.ref a1_0), .val (.ref a1_1), .val (.int (0 : Int32)), .val (.int (0 : Int32)), .val .null, .unset] [(.ref d2), (.ref a1_0)])) rfl rfl (hb hby d1_14)
  have Fw9 : Fld Z h9 a1_0 "java/lang/String" "value" "[B" (.ref d2) := F5.same W9
  have sf10 := Safe.wr W9 sf3 hCR.1 sf3
  have hCR := hCR.trans (CHr.wr W9 sf3 hCR.1)
  have hk := Nat.le_trans hk (Nat.le_of_eq W9.size.symm)
  have F11 := F4.wr W9
  have F13 := F6.other W9 (Or.inr (slot_ne (Or.inr (wd hw 6 rfl)) (Or.inr (wd hw 5 rfl)) (by decide) (t := .byte) (t' := (.array .byte)) (by decide) (by decide)))
  have F14 := Ex2.wr W9
  have F15 := Fc2.other W9 (Or.inl (Ne.symm ne7.1))
  have F16 := Fv2.other W9 (Or.inl (Ne.symm ne7.1))
  have F17 := V2.other W9 (Ne.symm ne7.2)
  have N9 := Fr.snoc X9 N0 g_a1_0
  have K9 : Keep h0 h9 [a1_0] := K2.wr W9 (Or.inl (List.mem_of_getElem? (i := 0) rfl))
  have Zs9 : n0 ≤ h9.size := by rw [W9.size]; exact Zs2
  obtain ⟨b18, T18, h18, k18, d18, kb18, X18, e18, E18, hS, hk, hZ, hown, Ex18, Fc18, Fv18, V18, lta18, ltb18, hC18, hL18, hsf18, st18⟩ := ldcCH X9 hx hZ hown (wd hw 141 rfl) wS e9 hS hk hEL (List.mem_of_getElem? (i := 3) rfl) hCR.1 (vs := []) (z := (0 : Int32)) ⟨by decide, rfl⟩ (by decide) rfl (g := (mkF m 18 #[.val (.ref a1_0), .val (.ref a1_1), .val (.int (0 : Int32)), .val (.int (0 : Int32)), .val .null, .unset] [(.ref a1_0)])) rfl (hb hby d1_18) (n := 0) (by decide) (by decide) (by decide) (by decide)
  have sf19 := hC18.safe F11.lt sf10
  have hCR := hCR.trans hC18
  have Zs18 : n0 ≤ h18.size := Nat.le_trans Zs9 E18.1
  have K18 : Keep h0 h18 [a1_0] := K9.ext E18
  have F20 := F11.ext E18
  have F21 := F13.ext E18
  have F22 := F14.ext E18
  have F23 := F15.ext E18
  have F24 := F16.ext E18
  have F25 := F17.ext E18
  have F26 := Fw9.ext E18
  have ne27 := hsf18 _ sf19
  obtain ⟨T28, X28, e28, st28⟩ := getF X18 hx hZ hown (host := "") (Or.inl (wd hw 21 rfl)) Via.refl e18 Fc18 (g := (mkF m 20 #[.val (.ref a1_0), .val (.ref a1_1), .val (.int (0 : Int32)), .val (.int (0 : Int32)), .val .null, .unset] [(.ref b18), (.ref a1_0)])) rfl rfl (hb hby d1_20)
  obtain ⟨T29, h29, X29, e29, W29, st29⟩ := putFN X28 hx hZ hown (wd hw 21 rfl) Via.refl e28 F21 F20 (Or.inr ⟨(wd hw 6 rfl), rfl, hnm⟩) (wd hw 3 rfl) (ty := .byte) (v' := .int (0 : Int32)) (by decide) rfl (by decide) (g := (mkF m 23 #[.val (.ref a1_0), .val (.ref a1_1), .val (.int (0 : Int32)), .val (.int (0 : Int32)), .val .null, .unset] [(.int (0 : Int32)), (.ref a1_0)])) rfl rfl (hb hby d1_23)
  have Fw29 : Fld Z h29 a1_0 "java/lang/String" "coder" "B" (.int (0 : Int32)) := F21.same W29
  have sf30 := Safe.wr W29 sf19 hCR.1 sf19
  have hCR := hCR.trans (CHr.wr W29 sf19 hCR.1)
  have hk := Nat.le_trans hk (Nat.le_of_eq W29.size.symm)
  have F31 := F20.wr W29
  have F33 := F22.wr W29
  have F34 := F23.other W29 (Or.inl (Ne.symm ne7.1))
  have F35 := F24.other W29 (Or.inl (Ne.symm ne7.1))
  have F36 := F25.other W29 (Ne.symm ne7.2)
  have F37 := F26.other W29 (Or.inr (slot_ne (Or.inr (wd hw 5 rfl)) (Or.inr (wd hw 6 rfl)) (by decide) (t := (.array .byte)) (t' := .byte) (by decide) (by decide)))
  have F38 := Ex18.wr W29
  have F39 := Fc18.other W29 (Or.inl (Ne.symm ne27.1))
  have F40 := Fv18.other W29 (Or.inl (Ne.symm ne27.1))
  have F41 := V18.other W29 (Ne.symm ne27.2)
  have N29 := Fr.snoc X29 N9 g_a1_0
  have K29 : Keep h0 h29 [a1_0] := K18.wr W29 (Or.inl (List.mem_of_getElem? (i := 0) rfl))
  have Zs29 : n0 ≤ h29.size := by rw [W29.size]; exact Zs18
  have k42 : ∀ t, Steps p.tables e below (T29.setTop (mkF m 26 #[.val (.ref a1_0), .val (.ref a1_1), .val (.int (0 : Int32)), .val (.int (0 : Int32)), .val .null, .unset] [])) t → Steps p.tables e below (s₁.setTop (entryFrame m #[(.ref a1_0), (.ref a1_1), (.int (0 : Int32)), (.int (0 : Int32)), .null] 6)) t := by
    intro t k
    refine pre0 t ?_
    refine XS.aloadN X0.here hx rfl (hb hby d1_0) rfl rfl ?_
    refine st1 _ ?_
    refine XS.iloadN X1.here hx rfl (hb hby d1_4) rfl ?_
    refine XS.ifNo X1.here hx rfl (hb hby d1_5) rfl ((if0 _ _).trans (teq (by decide : (0 : Int32) = (0 : Int32))).2) ?_
    refine XS.aloadN X1.here hx rfl (hb hby d1_8) rfl rfl ?_
    refine st2 _ ?_
    refine st8 _ ?_
    refine st9 _ ?_
    refine XS.aloadN X9.here hx rfl (hb hby d1_17) rfl rfl ?_
    refine st18 _ ?_
    refine st28 _ ?_
    refine st29 _ ?_
    exact k
  obtain ⟨fs, hr, hrun, hended, hE1, hE2, hE3, hE4⟩ := X29.leaveW hS (by rw [e29]; exact hk) (v := none) (fun _ => rfl)
  have hCE := hCR.trans (CHv.at X29 hZ hEL hCR.1)
  refine ⟨_, _, k42 _ ?_, hrun, hended, _, _, rfl, ?_, (by show CHr Z consts_1 s.vm s.heap T29.vm T29.heap; rw [hh, e29]; exact hCE), ⟨_, rfl⟩, hE2, hE3, hE4.mono (by decide) (by decide)⟩
  · exact X29.returnOut hx Bd.returns (hb hby d1_26) hr
  · show Q1 Z a1_0 a1_1 h0 n0 _ T29.heap _
    rw [e29]
    exact ⟨d2, kb2, rfl, N29, K29, F31, F37, Fw29, F36⟩
theorem pd_0 : parseMethodDescriptor "([CIILjava/lang/Void;)V" = some ⟨[(.array .char), .int, .int, (.object "java/lang/Void")], none⟩ := by decide +kernel
theorem d2_0 : decode jdk_42_method_3_code 0 = .ok (.aload_n 0, 1) := by decide +kernel
theorem d2_1 : decode jdk_42_method_3_code 1 = .ok (.aload_n 1, 1) := by decide +kernel
theorem d2_2 : decode jdk_42_method_3_code 2 = .ok (.iconst 0, 1) := by decide +kernel
theorem d2_3 : decode jdk_42_method_3_code 3 = .ok (.aload_n 1, 1) := by decide +kernel
theorem d2_4 : decode jdk_42_method_3_code 4 = .ok (.arraylength, 1) := by decide +kernel
theorem d2_5 : decode jdk_42_method_3_code 5 = .ok (.aconst_null, 1) := by decide +kernel
theorem d2_6 : decode jdk_42_method_3_code 6 = .ok (.invokespecial 27, 3) := by decide +kernel
theorem d2_9 : decode jdk_42_method_3_code 9 = .ok (.return_, 1) := by decide +kernel
theorem ef_2 (m : MethodId) (a2_0 : Addr) (a2_1 : Addr) : entryFrame m #[(.ref a2_0), (.ref a2_1)] 2 = mkF m 0 #[.val (.ref a2_0), .val (.ref a2_1)] [] := by first | (simp [entryFrame, mkF, argsToLocals, Value.category]; done) | rfl
def Q2 (Z : State) (a2_0 : Addr) (a2_1 : Addr) (kk : ClassId) (h0 : Heap) (n0 : Nat) (v : Option Value) (h : Heap) (L : List Loc) : Prop := ∃ d2 : Nat, ∃ kv2 : ClassId, v = none ∧ Fr n0 L ∧ Keep h0 h [a2_0] ∧ Exa Z h a2_0 "java/lang/String" ∧ Fld Z h a2_0 "java/lang/String" "value" "[B" (.ref d2) ∧ Fld Z h a2_0 "java/lang/String" "coder" "B" (.int (0 : Int32)) ∧ Arv Z h d2 kv2 .byte (0 : Int32) [] (.int (0 : Int32))
set_option maxRecDepth 65536 in
set_option maxHeartbeats 40000000 in
theorem rm2 (l : Launch) (Z : State) (a0 : Array Value) (hw : ∀ d ∈ tables_1, d.before a0 Z = true) (ws : List Jvm.Cond) (hEL : EW Z a0 consts_1) (wS : ∀ a ∈ Bundle.stringAtoms, a.before a0 Z = true) (a2_0 : Addr) (a2_1 : Addr) (kk : ClassId) (h0 : Heap) (n0 : Nat) (Z0 : n0 ≤ h0.size) (Ea : Exa Z h0 a2_0 "java/lang/String") (Fv : Fld Z h0 a2_0 "java/lang/String" "value" "[B" .null) (Fc : Fld Z h0 a2_0 "java/lang/String" "coder" "B" (.int (0 : Int32))) (Vc : Arv Z h0 a2_1 kk .char (0 : Int32) [] (.int (0 : Int32))) (g_a2_0 : n0 ≤ a2_0) :
    MetFree l (⟨"java/lang/String", "<init>", "([C)V"⟩ : MethodName) (head1 (Jvm.Cond.code (⟨"java/lang/String", "<init>", "([C)V"⟩ : MethodName) jdk_42_method_3_code 2 none :: ws) ({ frames := 2, cells := 4, slots := 8, locals := 29 } : Room)) (fun a U => a = #[(.ref a2_0), (.ref a2_1)] ∧ Z.Warmed39 U.vm ∧ U.heap = h0 ∧ CHv Z consts_1 U.vm h0) (fun _ _ _ _ _ => True) (fun _ U o U' => ∃ v L, o = .returned v ∧ Q2 Z a2_0 a2_1 kk h0 n0 v U'.heap L ∧ CHr Z consts_1 U.vm U.heap U'.vm U'.heap ∧ ReturnedEndW U o U' L ({ frames := 2, cells := 4, slots := 8, locals := 29 } : Room).cells ({ frames := 2, cells := 4, slots := 8, locals := 29 } : Room).slots) := by
  refine MetFree.of_bodySF (plainFor_of_name pn_0) hisR ?_
  intro p e s m args below meth c s₁ Bd hml0 hP hK
  obtain ⟨rfl, hZ, hh, hCH⟩ := hP
  have hx := Bd.exec
  have hby := Bd.bytes
  have hml : c.maxLocals = 2 := hml0
  have hown : s.vm.findClass "java/lang/String" = some m.cls := findClass_of_methodNamed Bd.named
  have hnm := (name_of_methodNamed Bd.named Bd.method).1
  have X0 : Stand p l e ({ frames := 2, cells := 4, slots := 8, locals := 29 } : Room) (s.setVm s.vm) m #[(.ref a2_0), (.ref a2_1)] below meth c s₁ [] 0 0 := Stand.of_body Bd
  have e0 : s₁.heap = h0 := by rw [← hh, Bd.state]; rfl
  have N0 := Fr.nil n0
  have hS : s.Since s.vm h0.size := (State.WarmedH.refl s).since _
  have hk : h0.size ≤ h0.size := Nat.le_refl _
  have hCR : CHr Z consts_1 s.vm h0 s.vm h0 := CHr.refl hCH
  have pre0 : ∀ t, Steps p.tables e below (s₁.setTop (mkF m 0 #[.val (.ref a2_0), .val (.ref a2_1)] [])) t → Steps p.tables e below (s₁.setTop (entryFrame m #[(.ref a2_0), (.ref a2_1)] 2)) t := fun t k => castTop (ef_2 m a2_0 a2_1) k
  obtain ⟨cl1, Ar1, qc1, Sz1, Nn1, Hh1, Gg1⟩ := (id Vc)
  obtain ⟨_, _, ⟨T2, L2, k2, n2⟩, -, X2, hS2, hg2, ⟨Lc2, hQ2, l2, y2, z2, hC2⟩, st2⟩ := X0.specialBackS hx (y := (⟨"java/lang/String", "<init>", "([CIILjava/lang/Void;)V"⟩ : MethodName)) rfl hown (mvT hZ (wd hw 56 rfl)) (mvT hZ (wd hw 57 rfl)) (mvT hZ (wd hw 59 rfl)) (by decide) (backOfSH (W := 0) (rm1 l Z a0 hw [] hEL wS a2_0 a2_1 h0 n0 Z0 Ea Fv Fc g_a2_0) hZ (wd hw 59 rfl) (wd hw 2 rfl) (by decide) (by decide) hEL hCR.1) (g := (mkF m 6 #[.val (.ref a2_0), .val (.ref a2_1)] [.null, (.int (0 : Int32)), (.int (0 : Int32)), (.ref a2_1), (.ref a2_0)])) rfl (by rw [hml]; rfl) (Steps.refl _) (a := a2_0) (argsL := [(.ref a2_1), (.int (0 : Int32)), (.int (0 : Int32)), .null]) (rest := []) (lenOf pd_0 rfl) rfl (by show 2 * 0 + _ ≤ _; exact Nat.le_of_eq rfl) (hb hby d2_6) (fun _ _ => ⟨rfl, e0, (by decide : 0 + 4 ≤ _), (by decide : 0 + 8 ≤ _)⟩)
  dsimp only [Pt.U, Pt.locs, Pt.cells, Pt.slots] at X2 hS2 hg2 hC2 l2 y2 z2 st2 hQ2
  rw [l2, y2, z2] at X2
  have hZ_2 := hZ
  obtain ⟨X2, hS, hZ, hown⟩ := rebS hS (by rw [e0]; exact hk) X2 hS2 hg2 hZ hown
  have hk := Nat.le_refl T2.heap.size
  have hCR := hCR.trans hC2
  obtain ⟨d1_2, kv1_2, rfl, N2q, Kc2, G2_0, G2_1, G2_2, G2_3⟩ := hQ2
  have Zs2 : n0 ≤ T2.heap.size := Nat.le_trans Z0 Kc2.1
  have K2 : Keep h0 T2.heap [a2_0] := (Keep.refl h0 [a2_0]).trans Kc2 (allS (Or.inl (List.mem_of_getElem? (i := 0) rfl)) all0)
  have N2 := Fr.app N0 N2q
  have k4 : ∀ t, Steps p.tables e below (T2.setTop (mkF m 9 #[.val (.ref a2_0), .val (.ref a2_1)] [])) t → Steps p.tables e below (s₁.setTop (entryFrame m #[(.ref a2_0), (.ref a2_1)] 2)) t := by
    intro t k
    refine pre0 t ?_
    refine XS.aloadN X0.here hx rfl (hb hby d2_0) rfl rfl ?_
    refine XS.aloadN X0.here hx rfl (hb hby d2_1) rfl rfl ?_
    refine XS.iconst X0.here hx rfl (hb hby d2_2) ?_
    refine XS.aloadN X0.here hx rfl (hb hby d2_3) rfl rfl ?_
    refine X0.arraylength hx (by rw [e0]; exact Ar1.1) (State.isArrayOf_alike hZ_2.alike Ar1.2.1) (g := (mkF m 4 #[.val (.ref a2_0), .val (.ref a2_1)] [(.ref a2_1), (.int (0 : Int32)), (.ref a2_1), (.ref a2_0)])) rfl rfl (hb hby d2_4) _ ?_
    rw [len_of Sz1 Nn1]
    refine XS.aconstNull X0.here hx rfl (hb hby d2_5) ?_
    refine st2.trans ?_
    exact k
  obtain ⟨fs, hr, hrun, hended, hE1, hE2, hE3, hE4⟩ := X2.leaveW hS hk (v := none) (fun _ => rfl)
  have hCE := hCR.trans (CHv.at X2 hZ hEL hCR.1)
  refine ⟨_, _, k4 _ ?_, hrun, hended, _, _, rfl, ?_, (by show CHr Z consts_1 s.vm s.heap T2.vm T2.heap; rw [hh]; exact hCE), ⟨_, rfl⟩, hE2, hE3, hE4.mono (by decide) (by decide)⟩
  · exact X2.returnOut hx Bd.returns (hb hby d2_9) hr
  · show Q2 Z a2_0 a2_1 kk h0 n0 _ T2.heap _
    exact ⟨d1_2, kv1_2, rfl, N2, K2, G2_0, G2_1, G2_2, G2_3⟩
theorem pn_1 : plainName "com/example/leanweave/leanweave/QosMeasureOfColumnPinLaw" = true := by first | (simp [plainName, overriddenIn]; done) | decide +kernel
theorem pd_1 : parseMethodDescriptor "()I" = some ⟨[], some .int⟩ := by decide +kernel
theorem pd_2 : parseMethodDescriptor "(I)C" = some ⟨[.int], some .char⟩ := by decide +kernel
theorem d3_0 : decode method_4_code 0 = .ok (.iload_n 1, 1) := by decide +kernel
theorem d3_1 : decode method_4_code 1 = .ok (.aload_n 0, 1) := by decide +kernel
theorem d3_2 : decode method_4_code 2 = .ok (.arraylength, 1) := by decide +kernel
theorem d3_3 : decode method_4_code 3 = .ok (.if_icmp .ge 23, 3) := by decide +kernel
theorem d3_6 : decode method_4_code 6 = .ok (.aload_n 0, 1) := by decide +kernel
theorem d3_7 : decode method_4_code 7 = .ok (.iload_n 1, 1) := by decide +kernel
theorem d3_8 : decode method_4_code 8 = .ok (.iload_n 1, 1) := by decide +kernel
theorem d3_9 : decode method_4_code 9 = .ok (.aload_n 2, 1) := by decide +kernel
theorem d3_10 : decode method_4_code 10 = .ok (.invokevirtual 19, 3) := by decide +kernel
theorem d3_13 : decode method_4_code 13 = .ok (.if_icmp .ge 11, 3) := by decide +kernel
theorem d3_16 : decode method_4_code 16 = .ok (.aload_n 2, 1) := by decide +kernel
theorem d3_17 : decode method_4_code 17 = .ok (.iload_n 1, 1) := by decide +kernel
theorem d3_18 : decode method_4_code 18 = .ok (.invokevirtual 59, 3) := by decide +kernel
theorem d3_21 : decode method_4_code 21 = .ok (.goto 4, 3) := by decide +kernel
theorem d3_24 : decode method_4_code 24 = .ok (.iload_n 3, 1) := by decide +kernel
theorem d3_25 : decode method_4_code 25 = .ok (.castore, 1) := by decide +kernel
theorem d3_26 : decode method_4_code 26 = .ok (.return_, 1) := by decide +kernel
theorem ef_3 (m : MethodId) (a3_0 : Addr) (p3_1 : Int32) (a3_2 : Addr) (p3_3 : Int32) : entryFrame m #[(.ref a3_0), (.int p3_1), (.ref a3_2), (.int p3_3)] 4 = mkF m 0 #[.val (.ref a3_0), .val (.int p3_1), .val (.ref a3_2), .val (.int p3_3)] [] := by first | (simp [entryFrame, mkF, argsToLocals, Value.category]; done) | rfl
def Q3 (Z : State) (a3_0 : Addr) (p3_1 : Int32) (a3_2 : Addr) (p3_3 : Int32) (kk : ClassId) (nn : Int32) (ca : List Int32) (tl : Addr) (kl : ClassId) (ls : List Int32) (cs : Int32) (fm : Value) (h0 : Heap) (n0 : Nat) (v : Option Value) (h : Heap) (L : List Loc) : Prop := ∃ cb : List Int32, v = none ∧ Fr n0 L ∧ Keep h0 h [a3_0] ∧ Arv Z h a3_0 kk .char nn (List.map Value.int cb) (.int (0 : Int32)) ∧ cb.length = nn.toNatClampNeg ∧ ∀ c ∈ cb, ¬ c < 0 ∧ ¬ (255 : Int32) < c
set_option maxRecDepth 65536 in
set_option maxHeartbeats 40000000 in
theorem rm3 (l : Launch) (Z : State) (a0 : Array Value) (hw : ∀ d ∈ tables_1, d.before a0 Z = true) (ws : List Jvm.Cond) (a3_0 : Addr) (p3_1 : Int32) (a3_2 : Addr) (p3_3 : Int32) (kk : ClassId) (nn : Int32) (ca : List Int32) (tl : Addr) (kl : ClassId) (ls : List Int32) (cs : Int32) (fm : Value) (h0 : Heap) (n0 : Nat) (Z0 : n0 ≤ h0.size) (Va : Arv Z h0 a3_0 kk .char nn (List.map Value.int ca) (.int (0 : Int32))) (E1 : Exa Z h0 a3_2 "java/lang/String") (V1 : Fld Z h0 a3_2 "java/lang/String" "value" "[B" (.ref tl)) (Cc1 : Fld Z h0 a3_2 "java/lang/String" "coder" "B" (.int (0 : Int32))) (Kl : Arv Z h0 tl kl .byte (Int32.ofNat ls.length) (List.map Value.int (List.map (fun c => c.toInt8.toInt32) ls)) (.int (0 : Int32))) (Sc : Sta Z h0 "java/lang/String" "COMPACT_STRINGS" "Z" (.int cs)) (Sf : Sta Z h0 "jdk/internal/util/Preconditions" "SIOOBE_FORMATTER" "Ljava/util/function/BiFunction;" fm) (hlen : ca.length = nn.toNatClampNeg) (hb_ca : ∀ c ∈ ca, ¬ c < 0 ∧ ¬ (255 : Int32) < c) (hb_ls : ∀ c ∈ ls, ¬ c < 0 ∧ ¬ (255 : Int32) < c) (hl_ls : ls.length ≤ 4000) (hcs : ¬ (cs = (0 : Int32))) (hfm : fm.isRef = true) (hi0 : ¬ (p3_1 < (0 : Int32))) (hp3a : ¬ (p3_3 < (0 : Int32))) (hp3b : ¬ ((255 : Int32) < p3_3)) (hne1 : a3_2 ≠ a3_0) (hne2 : tl ≠ a3_0) (g_a3_0 : n0 ≤ a3_0) :
    MetFree l (⟨"com/example/leanweave/leanweave/QosMeasureOfColumnPinLaw", "put", "([CILjava/lang/String;C)V"⟩ : MethodName) (head1 (Jvm.Cond.code (⟨"com/example/leanweave/leanweave/QosMeasureOfColumnPinLaw", "put", "([CILjava/lang/String;C)V"⟩ : MethodName) method_4_code 4 none :: ws) ({ frames := 4, cells := 0, slots := 0, locals := 55 } : Room)) (fun a U => a = #[(.ref a3_0), (.int p3_1), (.ref a3_2), (.int p3_3)] ∧ Z.Warmed39 U.vm ∧ U.heap = h0) (fun _ _ _ _ _ => True) (fun _ U o U' => ∃ v L, o = .returned v ∧ Q3 Z a3_0 p3_1 a3_2 p3_3 kk nn ca tl kl ls cs fm h0 n0 v U'.heap L ∧ FrameEnd U o U' L ({ frames := 4, cells := 0, slots := 0, locals := 55 } : Room).cells ({ frames := 4, cells := 0, slots := 0, locals := 55 } : Room).slots) := by
  refine MetFree.of_bodySF (plainFor_of_name pn_1) hisR ?_
  intro p e s m args below meth c s₁ Bd hml0 hP hK
  obtain ⟨rfl, hZ, hh⟩ := hP
  have hx := Bd.exec
  have hby := Bd.bytes
  have hml : c.maxLocals = 4 := hml0
  have hown : s.vm.findClass "com/example/leanweave/leanweave/QosMeasureOfColumnPinLaw" = some m.cls := findClass_of_methodNamed Bd.named
  have hnm := (name_of_methodNamed Bd.named Bd.method).1
  have X0 : Stand p l e ({ frames := 4, cells := 0, slots := 0, locals := 55 } : Room) s m #[(.ref a3_0), (.int p3_1), (.ref a3_2), (.int p3_3)] below meth c s₁ [] 0 0 := Stand.of_body Bd
  have e0 : s₁.heap = h0 := by rw [← hh, Bd.state]; rfl
  have N0 := Fr.nil n0
  have pre0 : ∀ t, Steps p.tables e below (s₁.setTop (mkF m 0 #[.val (.ref a3_0), .val (.int p3_1), .val (.ref a3_2), .val (.int p3_3)] [])) t → Steps p.tables e below (s₁.setTop (entryFrame m #[(.ref a3_0), (.int p3_1), (.ref a3_2), (.int p3_3)] 4)) t := fun t k => castTop (ef_3 m a3_0 p3_1 a3_2 p3_3) k
  obtain ⟨cl1, Ar1, qc1, Sz1, Nn1, Hh1, Gg1⟩ := (id Va)
  have k2 : ∀ t, Steps p.tables e below (s₁.setTop (mkF m 3 #[.val (.ref a3_0), .val (.int p3_1), .val (.ref a3_2), .val (.int p3_3)] [(.int nn), (.int p3_1)])) t → Steps p.tables e below (s₁.setTop (entryFrame m #[(.ref a3_0), (.int p3_1), (.ref a3_2), (.int p3_3)] 4)) t := by
    intro t k
    refine pre0 t ?_
    refine XS.iloadN X0.here hx rfl (hb hby d3_0) rfl ?_
    refine XS.aloadN X0.here hx rfl (hb hby d3_1) rfl rfl ?_
    refine X0.arraylength hx (by rw [e0]; exact Ar1.1) (State.isArrayOf_alike hZ.alike Ar1.2.1) (g := (mkF m 2 #[.val (.ref a3_0), .val (.int p3_1), .val (.ref a3_2), .val (.int p3_3)] [(.ref a3_0), (.int p3_1)])) rfl rfl (hb hby d3_2) _ ?_
    rw [len_of Sz1 Nn1]
    exact k
  by_cases hc3_3 : p3_1 < nn
  · skip
    obtain ⟨cq4, kq4, q4a, q4b, q4c⟩ := isOf hZ e0 E1
    obtain ⟨_, _, ⟨T4, L4, k4, n4⟩, -, X4, ⟨Lc4, hQ4, l4, y4, z4⟩, st4⟩ := X0.virtualBack hx (y := (⟨"java/lang/String", "length", "()I"⟩ : MethodName)) (z := (⟨"java/lang/String", "length", "()I"⟩ : MethodName)) hown (mvT hZ (wd hw 9 rfl)) (mvT hZ (wd hw 10 rfl)) (notFace_of_selects (args := #[]) (mvT hZ (wd hw 12 rfl))) (mvT hZ (wd hw 12 rfl)) (mvT hZ (wd hw 11 rfl)) (by decide) (StrChars.Road.lenW (W := 3) hZ (fun d hd => hw d (own_sub_lenW d hd)) (kI := 4) (wd hw 3 rfl) (cs := ls) E1 V1 Cc1 Kl (own_codG rfl hb_ls) (own_u16 hb_ls) Sc hcs hl_ls (by decide) (by decide)) q4a q4c (g := (mkF m 10 #[.val (.ref a3_0), .val (.int p3_1), .val (.ref a3_2), .val (.int p3_3)] [(.ref a3_2), (.int p3_1), (.int p3_1), (.ref a3_0)])) rfl (by rw [hml]; rfl) (Steps.refl _) (argsL := []) (rest := [(.int p3_1), (.int p3_1), (.ref a3_0)]) (lenOf pd_1 rfl) rfl (by show 2 * 0 + _ ≤ _; exact Nat.le_of_eq rfl) (hb hby d3_10) (fun _ _ => ⟨rfl, e0, (by decide : 0 + 0 ≤ _), (by decide : 0 + 0 ≤ _)⟩)
    dsimp only [Pt.U, Pt.locs, Pt.cells, Pt.slots] at X4 l4 y4 z4 st4 hQ4
    rw [l4, y4, z4] at X4
    obtain ⟨rfl, rfl, eh4⟩ := hQ4
    have N4 := Fr.app N0 (Fr.nil n0)
    have k5 : ∀ t, Steps p.tables e below (T4.setTop (mkF m 13 #[.val (.ref a3_0), .val (.int p3_1), .val (.ref a3_2), .val (.int p3_3)] [(.int (Int32.ofNat ls.length)), (.int p3_1), (.int p3_1), (.ref a3_0)])) t → Steps p.tables e below (s₁.setTop (entryFrame m #[(.ref a3_0), (.int p3_1), (.ref a3_2), (.int p3_3)] 4)) t := by
      intro t k
      refine k2 t ?_
      refine XS.icmpNo X0.here hx rfl (hb hby d3_3) rfl (tlt hc3_3).2.1 ?_
      refine XS.aloadN X0.here hx rfl (hb hby d3_6) rfl rfl ?_
      refine XS.iloadN X0.here hx rfl (hb hby d3_7) rfl ?_
      refine XS.iloadN X0.here hx rfl (hb hby d3_8) rfl ?_
      refine XS.aloadN X0.here hx rfl (hb hby d3_9) rfl rfl ?_
      refine st4.trans ?_
      exact k
    by_cases hc13_6 : p3_1 < (Int32.ofNat ls.length)
    · skip
      obtain ⟨cq7, kq7, q7a, q7b, q7c⟩ := isOf hZ eh4 E1
      obtain ⟨_, _, ⟨T7, L7, k7, n7⟩, -, X7, ⟨Lc7, hQ7, l7, y7, z7⟩, st7⟩ := X4.virtualBack hx (y := (⟨"java/lang/String", "charAt", "(I)C"⟩ : MethodName)) (z := (⟨"java/lang/String", "charAt", "(I)C"⟩ : MethodName)) hown (mvT hZ (wd hw 30 rfl)) (mvT hZ (wd hw 31 rfl)) (notFace_of_selects (args := #[]) (mvT hZ (wd hw 33 rfl))) (mvT hZ (wd hw 33 rfl)) (mvT hZ (wd hw 32 rfl)) (by decide) (StrChars.Road.chN (W := 2) hZ (fun d hd => hw d (own_sub_chN d hd)) (kI := 4) (wd hw 3 rfl) (cs := ls) E1 V1 Cc1 Kl (own_codG rfl hb_ls) (own_u16 hb_ls) Sc hcs Sf hfm hl_ls (i := (p3_1).toNatClampNeg) (own_iltg hi0 hc13_6 hl_ls) (j := p3_1) (own_ofn _ hi0) (by decide) (by decide)) q7a q7c (g := (mkF m 18 #[.val (.ref a3_0), .val (.int p3_1), .val (.ref a3_2), .val (.int p3_3)] [(.int p3_1), (.ref a3_2), (.int p3_1), (.ref a3_0)])) rfl (by rw [hml]; rfl) (Steps.refl _) (argsL := [(.int p3_1)]) (rest := [(.int p3_1), (.ref a3_0)]) (lenOf pd_2 rfl) rfl (by show 2 * 0 + _ ≤ _; exact Nat.le_of_eq rfl) (hb hby d3_18) (fun _ _ => ⟨rfl, eh4, (by decide : 0 + 0 ≤ _), (by decide : 0 + 0 ≤ _)⟩)
      dsimp only [Pt.U, Pt.locs, Pt.cells, Pt.slots] at X7 l7 y7 z7 st7 hQ7
      rw [l7, y7, z7] at X7
      obtain ⟨rfl, rfl, eh7⟩ := hQ7
      have N7 := Fr.app N4 (Fr.nil n0)
      obtain ⟨cl8, Ar8, qc8, Sz8, Nn8, Hh8, Gg8⟩ := (id Va)
      have hin8 : ¬ (p3_1 < 0 ∨ cl8.slots.size ≤ (p3_1).toNatClampNeg) := inb_of Sz8 ⟨hi0, hc3_3⟩
      obtain ⟨T8, h8, X8, e8, W8, st8⟩ := stC X7 hx hZ eh7 Ar8 (j := p3_1) hin8 (g := (mkF m 25 #[.val (.ref a3_0), .val (.int p3_1), .val (.ref a3_2), .val (.int p3_3)] [(.int (ls.getD p3_1.toNatClampNeg 0)), (.int p3_1), (.ref a3_0)])) rfl rfl (hb hby d3_25)
      have F10 := E1.wr W8
      have F11 := V1.other W8 (Or.inl hne1)
      have F12 := Cc1.other W8 (Or.inl hne1)
      have F13 := Kl.other W8 hne2
      have F14 := Sc.wr W8
      have F15 := Sf.wr W8
      have V8 := own_setL Ar8 qc8 Sz8 Nn8 Hh8 Gg8 (own_getr hb_ls) W8 hlen hi0 hc3_3
      have N8 := Fr.snoc X8 N7 g_a3_0
      have K8 : Keep h0 h8 [a3_0] := (Keep.refl h0 [a3_0]).wr W8 (Or.inl (List.mem_of_getElem? (i := 0) rfl))
      have Zs8 : n0 ≤ h8.size := by rw [W8.size]; exact Z0
      have k16 : ∀ t, Steps p.tables e below (T8.setTop (mkF m 26 #[.val (.ref a3_0), .val (.int p3_1), .val (.ref a3_2), .val (.int p3_3)] [])) t → Steps p.tables e below (s₁.setTop (entryFrame m #[(.ref a3_0), (.int p3_1), (.ref a3_2), (.int p3_3)] 4)) t := by
        intro t k
        refine k5 t ?_
        refine XS.icmpNo X4.here hx rfl (hb hby d3_13) rfl (tlt hc13_6).2.1 ?_
        refine XS.aloadN X4.here hx rfl (hb hby d3_16) rfl rfl ?_
        refine XS.iloadN X4.here hx rfl (hb hby d3_17) rfl ?_
        refine st7.trans ?_
        refine XS.goto X7.here hx rfl (pc0 := 21) (pc' := 25) rfl (hb hby d3_21) (by decide) (by decide) ?_
        refine st8 _ ?_
        exact k
      obtain ⟨fs, hr, hrun, hended, hW, hsame⟩ := X8.leave (v := none) (fun _ => rfl)
      refine ⟨_, _, k16 _ ?_, hrun, hended, _, _, rfl, ?_, ⟨_, rfl⟩, hW, hsame.mono (by decide) (by decide)⟩
      · exact X8.returnOut hx Bd.returns (hb hby d3_26) hr
      · show Q3 Z a3_0 p3_1 a3_2 p3_3 kk nn ca tl kl ls cs fm h0 n0 _ T8.heap _
        rw [e8]
        exact ⟨(ca.set (p3_1).toNatClampNeg (ls.getD p3_1.toNatClampNeg 0)), rfl, N8, K8, V8, (own_setlen hlen), (own_setall hb_ca (own_getr hb_ls))⟩
    · skip
      obtain ⟨cl17, Ar17, qc17, Sz17, Nn17, Hh17, Gg17⟩ := (id Va)
      have hin17 : ¬ (p3_1 < 0 ∨ cl17.slots.size ≤ (p3_1).toNatClampNeg) := inb_of Sz17 ⟨hi0, hc3_3⟩
      obtain ⟨T17, h17, X17, e17, W17, st17⟩ := stC X4 hx hZ eh4 Ar17 (j := p3_1) hin17 (g := (mkF m 25 #[.val (.ref a3_0), .val (.int p3_1), .val (.ref a3_2), .val (.int p3_3)] [(.int p3_3), (.int p3_1), (.ref a3_0)])) rfl rfl (hb hby d3_25)
      have F19 := E1.wr W17
      have F20 := V1.other W17 (Or.inl hne1)
      have F21 := Cc1.other W17 (Or.inl hne1)
      have F22 := Kl.other W17 hne2
      have F23 := Sc.wr W17
      have F24 := Sf.wr W17
      have V17 := own_setL Ar17 qc17 Sz17 Nn17 Hh17 Gg17 ⟨hp3a, hp3b⟩ W17 hlen hi0 hc3_3
      have N17 := Fr.snoc X17 N4 g_a3_0
      have K17 : Keep h0 h17 [a3_0] := (Keep.refl h0 [a3_0]).wr W17 (Or.inl (List.mem_of_getElem? (i := 0) rfl))
      have Zs17 : n0 ≤ h17.size := by rw [W17.size]; exact Z0
      have k25 : ∀ t, Steps p.tables e below (T17.setTop (mkF m 26 #[.val (.ref a3_0), .val (.int p3_1), .val (.ref a3_2), .val (.int p3_3)] [])) t → Steps p.tables e below (s₁.setTop (entryFrame m #[(.ref a3_0), (.int p3_1), (.ref a3_2), (.int p3_3)] 4)) t := by
        intro t k
        refine k5 t ?_
        refine XS.icmpYes X4.here hx rfl (pc0 := 13) (pc' := 24) rfl (hb hby d3_13) rfl (flt hc13_6).2.1 (by decide) (by decide) ?_
        refine XS.iloadN X4.here hx rfl (hb hby d3_24) rfl ?_
        refine st17 _ ?_
        exact k
      obtain ⟨fs, hr, hrun, hended, hW, hsame⟩ := X17.leave (v := none) (fun _ => rfl)
      refine ⟨_, _, k25 _ ?_, hrun, hended, _, _, rfl, ?_, ⟨_, rfl⟩, hW, hsame.mono (by decide) (by decide)⟩
      · exact X17.returnOut hx Bd.returns (hb hby d3_26) hr
      · show Q3 Z a3_0 p3_1 a3_2 p3_3 kk nn ca tl kl ls cs fm h0 n0 _ T17.heap _
        rw [e17]
        exact ⟨(ca.set (p3_1).toNatClampNeg p3_3), rfl, N17, K17, V17, (own_setlen hlen), (own_setall hb_ca ⟨hp3a, hp3b⟩)⟩
  · skip
    have k26 : ∀ t, Steps p.tables e below (s₁.setTop (mkF m 26 #[.val (.ref a3_0), .val (.int p3_1), .val (.ref a3_2), .val (.int p3_3)] [])) t → Steps p.tables e below (s₁.setTop (entryFrame m #[(.ref a3_0), (.int p3_1), (.ref a3_2), (.int p3_3)] 4)) t := by
      intro t k
      refine k2 t ?_
      refine XS.icmpYes X0.here hx rfl (pc0 := 3) (pc' := 26) rfl (hb hby d3_3) rfl (flt hc3_3).2.1 (by decide) (by decide) ?_
      exact k
    obtain ⟨fs, hr, hrun, hended, hW, hsame⟩ := X0.leave (v := none) (fun _ => rfl)
    refine ⟨_, _, k26 _ ?_, hrun, hended, _, _, rfl, ?_, ⟨_, rfl⟩, hW, hsame.mono (by decide) (by decide)⟩
    · exact X0.returnOut hx Bd.returns (hb hby d3_26) hr
    · show Q3 Z a3_0 p3_1 a3_2 p3_3 kk nn ca tl kl ls cs fm h0 n0 _ s₁.heap _
      rw [e0]
      exact ⟨ca, rfl, N0, (Keep.refl h0 [a3_0]), Va, hlen, hb_ca⟩
theorem pd_3 : parseMethodDescriptor "([CILjava/lang/String;C)V" = some ⟨[(.array .char), .int, (.object "java/lang/String"), .char], none⟩ := by decide +kernel
theorem d4_0 : decode method_5_code 0 = .ok (.aload_n 0, 1) := by decide +kernel
theorem d4_1 : decode method_5_code 1 = .ok (.iconst 0, 1) := by decide +kernel
theorem d4_2 : decode method_5_code 2 = .ok (.aload_n 1, 1) := by decide +kernel
theorem d4_3 : decode method_5_code 3 = .ok (.iload_n 2, 1) := by decide +kernel
theorem d4_4 : decode method_5_code 4 = .ok (.invokestatic 63, 3) := by decide +kernel
theorem d4_7 : decode method_5_code 7 = .ok (.aload_n 0, 1) := by decide +kernel
theorem d4_8 : decode method_5_code 8 = .ok (.iconst 1, 1) := by decide +kernel
theorem d4_9 : decode method_5_code 9 = .ok (.aload_n 1, 1) := by decide +kernel
theorem d4_10 : decode method_5_code 10 = .ok (.iload_n 2, 1) := by decide +kernel
theorem d4_11 : decode method_5_code 11 = .ok (.invokestatic 63, 3) := by decide +kernel
theorem d4_14 : decode method_5_code 14 = .ok (.aload_n 0, 1) := by decide +kernel
theorem d4_15 : decode method_5_code 15 = .ok (.iconst 2, 1) := by decide +kernel
theorem d4_16 : decode method_5_code 16 = .ok (.aload_n 1, 1) := by decide +kernel
theorem d4_17 : decode method_5_code 17 = .ok (.iload_n 2, 1) := by decide +kernel
theorem d4_18 : decode method_5_code 18 = .ok (.invokestatic 63, 3) := by decide +kernel
theorem d4_21 : decode method_5_code 21 = .ok (.aload_n 0, 1) := by decide +kernel
theorem d4_22 : decode method_5_code 22 = .ok (.iconst 3, 1) := by decide +kernel
theorem d4_23 : decode method_5_code 23 = .ok (.aload_n 1, 1) := by decide +kernel
theorem d4_24 : decode method_5_code 24 = .ok (.iload_n 2, 1) := by decide +kernel
theorem d4_25 : decode method_5_code 25 = .ok (.invokestatic 63, 3) := by decide +kernel
theorem d4_28 : decode method_5_code 28 = .ok (.aload_n 0, 1) := by decide +kernel
theorem d4_29 : decode method_5_code 29 = .ok (.iconst 4, 1) := by decide +kernel
theorem d4_30 : decode method_5_code 30 = .ok (.aload_n 1, 1) := by decide +kernel
theorem d4_31 : decode method_5_code 31 = .ok (.iload_n 2, 1) := by decide +kernel
theorem d4_32 : decode method_5_code 32 = .ok (.invokestatic 63, 3) := by decide +kernel
theorem d4_35 : decode method_5_code 35 = .ok (.aload_n 0, 1) := by decide +kernel
theorem d4_36 : decode method_5_code 36 = .ok (.iconst 5, 1) := by decide +kernel
theorem d4_37 : decode method_5_code 37 = .ok (.aload_n 1, 1) := by decide +kernel
theorem d4_38 : decode method_5_code 38 = .ok (.iload_n 2, 1) := by decide +kernel
theorem d4_39 : decode method_5_code 39 = .ok (.invokestatic 63, 3) := by decide +kernel
theorem d4_42 : decode method_5_code 42 = .ok (.aload_n 0, 1) := by decide +kernel
theorem d4_43 : decode method_5_code 43 = .ok (.bipush 6, 2) := by decide +kernel
theorem d4_45 : decode method_5_code 45 = .ok (.aload_n 1, 1) := by decide +kernel
theorem d4_46 : decode method_5_code 46 = .ok (.iload_n 2, 1) := by decide +kernel
theorem d4_47 : decode method_5_code 47 = .ok (.invokestatic 63, 3) := by decide +kernel
theorem d4_50 : decode method_5_code 50 = .ok (.aload_n 0, 1) := by decide +kernel
theorem d4_51 : decode method_5_code 51 = .ok (.bipush 7, 2) := by decide +kernel
theorem d4_53 : decode method_5_code 53 = .ok (.aload_n 1, 1) := by decide +kernel
theorem d4_54 : decode method_5_code 54 = .ok (.iload_n 2, 1) := by decide +kernel
theorem d4_55 : decode method_5_code 55 = .ok (.invokestatic 63, 3) := by decide +kernel
theorem d4_58 : decode method_5_code 58 = .ok (.aload_n 0, 1) := by decide +kernel
theorem d4_59 : decode method_5_code 59 = .ok (.bipush 8, 2) := by decide +kernel
theorem d4_61 : decode method_5_code 61 = .ok (.aload_n 1, 1) := by decide +kernel
theorem d4_62 : decode method_5_code 62 = .ok (.iload_n 2, 1) := by decide +kernel
theorem d4_63 : decode method_5_code 63 = .ok (.invokestatic 63, 3) := by decide +kernel
theorem d4_66 : decode method_5_code 66 = .ok (.aload_n 0, 1) := by decide +kernel
theorem d4_67 : decode method_5_code 67 = .ok (.bipush 9, 2) := by decide +kernel
theorem d4_69 : decode method_5_code 69 = .ok (.aload_n 1, 1) := by decide +kernel
theorem d4_70 : decode method_5_code 70 = .ok (.iload_n 2, 1) := by decide +kernel
theorem d4_71 : decode method_5_code 71 = .ok (.invokestatic 63, 3) := by decide +kernel
theorem d4_74 : decode method_5_code 74 = .ok (.aload_n 0, 1) := by decide +kernel
theorem d4_75 : decode method_5_code 75 = .ok (.bipush 10, 2) := by decide +kernel
theorem d4_77 : decode method_5_code 77 = .ok (.aload_n 1, 1) := by decide +kernel
theorem d4_78 : decode method_5_code 78 = .ok (.iload_n 2, 1) := by decide +kernel
theorem d4_79 : decode method_5_code 79 = .ok (.invokestatic 63, 3) := by decide +kernel
theorem d4_82 : decode method_5_code 82 = .ok (.aload_n 0, 1) := by decide +kernel
theorem d4_83 : decode method_5_code 83 = .ok (.bipush 11, 2) := by decide +kernel
theorem d4_85 : decode method_5_code 85 = .ok (.aload_n 1, 1) := by decide +kernel
theorem d4_86 : decode method_5_code 86 = .ok (.iload_n 2, 1) := by decide +kernel
theorem d4_87 : decode method_5_code 87 = .ok (.invokestatic 63, 3) := by decide +kernel
theorem d4_90 : decode method_5_code 90 = .ok (.aload_n 0, 1) := by decide +kernel
theorem d4_91 : decode method_5_code 91 = .ok (.bipush 12, 2) := by decide +kernel
theorem d4_93 : decode method_5_code 93 = .ok (.aload_n 1, 1) := by decide +kernel
theorem d4_94 : decode method_5_code 94 = .ok (.iload_n 2, 1) := by decide +kernel
theorem d4_95 : decode method_5_code 95 = .ok (.invokestatic 63, 3) := by decide +kernel
theorem d4_98 : decode method_5_code 98 = .ok (.aload_n 0, 1) := by decide +kernel
theorem d4_99 : decode method_5_code 99 = .ok (.bipush 13, 2) := by decide +kernel
theorem d4_101 : decode method_5_code 101 = .ok (.aload_n 1, 1) := by decide +kernel
theorem d4_102 : decode method_5_code 102 = .ok (.iload_n 2, 1) := by decide +kernel
theorem d4_103 : decode method_5_code 103 = .ok (.invokestatic 63, 3) := by decide +kernel
theorem d4_106 : decode method_5_code 106 = .ok (.aload_n 0, 1) := by decide +kernel
theorem d4_107 : decode method_5_code 107 = .ok (.bipush 14, 2) := by decide +kernel
theorem d4_109 : decode method_5_code 109 = .ok (.aload_n 1, 1) := by decide +kernel
theorem d4_110 : decode method_5_code 110 = .ok (.iload_n 2, 1) := by decide +kernel
theorem d4_111 : decode method_5_code 111 = .ok (.invokestatic 63, 3) := by decide +kernel
theorem d4_114 : decode method_5_code 114 = .ok (.aload_n 0, 1) := by decide +kernel
theorem d4_115 : decode method_5_code 115 = .ok (.bipush 15, 2) := by decide +kernel
theorem d4_117 : decode method_5_code 117 = .ok (.aload_n 1, 1) := by decide +kernel
theorem d4_118 : decode method_5_code 118 = .ok (.iload_n 2, 1) := by decide +kernel
theorem d4_119 : decode method_5_code 119 = .ok (.invokestatic 63, 3) := by decide +kernel
theorem d4_122 : decode method_5_code 122 = .ok (.aload_n 0, 1) := by decide +kernel
theorem d4_123 : decode method_5_code 123 = .ok (.bipush 16, 2) := by decide +kernel
theorem d4_125 : decode method_5_code 125 = .ok (.aload_n 1, 1) := by decide +kernel
theorem d4_126 : decode method_5_code 126 = .ok (.iload_n 2, 1) := by decide +kernel
theorem d4_127 : decode method_5_code 127 = .ok (.invokestatic 63, 3) := by decide +kernel
theorem d4_130 : decode method_5_code 130 = .ok (.return_, 1) := by decide +kernel
theorem ef_4 (m : MethodId) (a4_0 : Addr) (a4_1 : Addr) (p4_2 : Int32) : entryFrame m #[(.ref a4_0), (.ref a4_1), (.int p4_2)] 3 = mkF m 0 #[.val (.ref a4_0), .val (.ref a4_1), .val (.int p4_2)] [] := by first | (simp [entryFrame, mkF, argsToLocals, Value.category]; done) | rfl
def Q4 (Z : State) (a4_0 : Addr) (a4_1 : Addr) (p4_2 : Int32) (kk : ClassId) (nn : Int32) (ca : List Int32) (tl : Addr) (kl : ClassId) (ls : List Int32) (cs : Int32) (fm : Value) (h0 : Heap) (n0 : Nat) (v : Option Value) (h : Heap) (L : List Loc) : Prop := ∃ cb : List Int32, v = none ∧ Fr n0 L ∧ Keep h0 h [a4_0] ∧ Arv Z h a4_0 kk .char nn (List.map Value.int cb) (.int (0 : Int32)) ∧ cb.length = nn.toNatClampNeg ∧ ∀ c ∈ cb, ¬ c < 0 ∧ ¬ (255 : Int32) < c
set_option maxRecDepth 65536 in
set_option maxHeartbeats 40000000 in
theorem rm4 (l : Launch) (Z : State) (a0 : Array Value) (hw : ∀ d ∈ tables_1, d.before a0 Z = true) (ws : List Jvm.Cond) (a4_0 : Addr) (a4_1 : Addr) (p4_2 : Int32) (kk : ClassId) (nn : Int32) (ca : List Int32) (tl : Addr) (kl : ClassId) (ls : List Int32) (cs : Int32) (fm : Value) (h0 : Heap) (n0 : Nat) (Z0 : n0 ≤ h0.size) (Va : Arv Z h0 a4_0 kk .char nn (List.map Value.int ca) (.int (0 : Int32))) (E1 : Exa Z h0 a4_1 "java/lang/String") (V1 : Fld Z h0 a4_1 "java/lang/String" "value" "[B" (.ref tl)) (Cc1 : Fld Z h0 a4_1 "java/lang/String" "coder" "B" (.int (0 : Int32))) (Kl : Arv Z h0 tl kl .byte (Int32.ofNat ls.length) (List.map Value.int (List.map (fun c => c.toInt8.toInt32) ls)) (.int (0 : Int32))) (Sc : Sta Z h0 "java/lang/String" "COMPACT_STRINGS" "Z" (.int cs)) (Sf : Sta Z h0 "jdk/internal/util/Preconditions" "SIOOBE_FORMATTER" "Ljava/util/function/BiFunction;" fm) (hlen : ca.length = nn.toNatClampNeg) (hb_ca : ∀ c ∈ ca, ¬ c < 0 ∧ ¬ (255 : Int32) < c) (hb_ls : ∀ c ∈ ls, ¬ c < 0 ∧ ¬ (255 : Int32) < c) (hl_ls : ls.length ≤ 4000) (hcs : ¬ (cs = (0 : Int32))) (hfm : fm.isRef = true) (hp3a : ¬ (p4_2 < (0 : Int32))) (hp3b : ¬ ((255 : Int32) < p4_2)) (hne1 : a4_1 ≠ a4_0) (hne2 : tl ≠ a4_0) (g_a4_0 : n0 ≤ a4_0) :
    MetFree l (⟨"com/example/leanweave/leanweave/QosMeasureOfColumnPinLaw", "fill", "([CLjava/lang/String;C)V"⟩ : MethodName) (head1 (Jvm.Cond.code (⟨"com/example/leanweave/leanweave/QosMeasureOfColumnPinLaw", "fill", "([CLjava/lang/String;C)V"⟩ : MethodName) method_5_code 3 none :: ws) ({ frames := 5, cells := 0, slots := 0, locals := 70 } : Room)) (fun a U => a = #[(.ref a4_0), (.ref a4_1), (.int p4_2)] ∧ Z.Warmed39 U.vm ∧ U.heap = h0) (fun _ _ _ _ _ => True) (fun _ U o U' => ∃ v L, o = .returned v ∧ Q4 Z a4_0 a4_1 p4_2 kk nn ca tl kl ls cs fm h0 n0 v U'.heap L ∧ FrameEnd U o U' L ({ frames := 5, cells := 0, slots := 0, locals := 70 } : Room).cells ({ frames := 5, cells := 0, slots := 0, locals := 70 } : Room).slots) := by
  refine MetFree.of_bodySF (plainFor_of_name pn_1) hisR ?_
  intro p e s m args below meth c s₁ Bd hml0 hP hK
  obtain ⟨rfl, hZ, hh⟩ := hP
  have hx := Bd.exec
  have hby := Bd.bytes
  have hml : c.maxLocals = 3 := hml0
  have hown : s.vm.findClass "com/example/leanweave/leanweave/QosMeasureOfColumnPinLaw" = some m.cls := findClass_of_methodNamed Bd.named
  have hnm := (name_of_methodNamed Bd.named Bd.method).1
  have X0 : Stand p l e ({ frames := 5, cells := 0, slots := 0, locals := 70 } : Room) s m #[(.ref a4_0), (.ref a4_1), (.int p4_2)] below meth c s₁ [] 0 0 := Stand.of_body Bd
  have e0 : s₁.heap = h0 := by rw [← hh, Bd.state]; rfl
  have N0 := Fr.nil n0
  have pre0 : ∀ t, Steps p.tables e below (s₁.setTop (mkF m 0 #[.val (.ref a4_0), .val (.ref a4_1), .val (.int p4_2)] [])) t → Steps p.tables e below (s₁.setTop (entryFrame m #[(.ref a4_0), (.ref a4_1), (.int p4_2)] 3)) t := fun t k => castTop (ef_4 m a4_0 a4_1 p4_2) k
  obtain ⟨_, _, ⟨T1, L1, k1, n1⟩, -, X1, ⟨Lc1, hQ1, l1, y1, z1⟩, st1⟩ := Jvm.LawKit.callS X0 hx (y := (⟨"com/example/leanweave/leanweave/QosMeasureOfColumnPinLaw", "put", "([CILjava/lang/String;C)V"⟩ : MethodName)) hown (mvT hZ (wd hw 27 rfl)) (mvT hZ (wd hw 28 rfl)) (mvT hZ (wd hw 25 rfl)) (mvT hZ (wd hw 29 rfl)) (by decide) (backOf (W := 0) (rm3 l Z a0 hw [] a4_0 (0 : Int32) a4_1 p4_2 kk nn ca tl kl ls cs fm h0 n0 Z0 Va E1 V1 Cc1 Kl Sc Sf hlen hb_ca hb_ls hl_ls hcs hfm (by decide : ¬ ((0 : Int32) < (0 : Int32))) hp3a hp3b hne1 hne2 g_a4_0) hZ (wd hw 29 rfl) (wd hw 25 rfl) (by decide) (by decide)) (g := (mkF m 4 #[.val (.ref a4_0), .val (.ref a4_1), .val (.int p4_2)] [(.int p4_2), (.ref a4_1), (.int (0 : Int32)), (.ref a4_0)])) rfl (by rw [hml]; rfl) (argsL := [(.ref a4_0), (.int (0 : Int32)), (.ref a4_1), (.int p4_2)]) (rest := []) (lenOf pd_3 rfl) rfl (by show 2 * 0 + _ ≤ _; exact Nat.le_of_eq rfl) (hb hby d4_4) (fun _ _ => ⟨rfl, e0, (by decide : 0 + 0 ≤ _), (by decide : 0 + 0 ≤ _)⟩)
  dsimp only [Pt.U, Pt.locs, Pt.cells, Pt.slots] at X1 l1 y1 z1 st1 hQ1
  rw [l1, y1, z1] at X1
  obtain ⟨cb_1, rfl, N1q, Kc1, G1_0, P1_0, P1_1⟩ := hQ1
  have Zs1 : n0 ≤ T1.heap.size := Nat.le_trans Z0 Kc1.1
  have K1 : Keep h0 T1.heap [a4_0] := (Keep.refl h0 [a4_0]).trans Kc1 (allS (Or.inl (List.mem_of_getElem? (i := 0) rfl)) all0)
  have F2 := E1.keep Kc1
  have F3 := V1.keep Kc1 (ninS hne1 nin0)
  have F4 := Cc1.keep Kc1 (ninS hne1 nin0)
  have F5 := Kl.keep Kc1 (ninS hne2 nin0)
  have F6 := own_stakeep Sc Kc1 (allS (own_nsV Va) all0)
  have F7 := own_stakeep Sf Kc1 (allS (own_nsV Va) all0)
  have N1 := Fr.app N0 N1q
  obtain ⟨_, _, ⟨T8, L8, k8, n8⟩, -, X8, ⟨Lc8, hQ8, l8, y8, z8⟩, st8⟩ := Jvm.LawKit.callS X1 hx (y := (⟨"com/example/leanweave/leanweave/QosMeasureOfColumnPinLaw", "put", "([CILjava/lang/String;C)V"⟩ : MethodName)) hown (mvT hZ (wd hw 27 rfl)) (mvT hZ (wd hw 28 rfl)) (mvT hZ (wd hw 25 rfl)) (mvT hZ (wd hw 29 rfl)) (by decide) (backOf (W := 0) (rm3 l Z a0 hw [] a4_0 (1 : Int32) a4_1 p4_2 kk nn cb_1 tl kl ls cs fm T1.heap n0 Zs1 G1_0 F2 F3 F4 F5 F6 F7 P1_0 P1_1 hb_ls hl_ls hcs hfm (by decide : ¬ ((1 : Int32) < (0 : Int32))) hp3a hp3b hne1 hne2 g_a4_0) hZ (wd hw 29 rfl) (wd hw 25 rfl) (by decide) (by decide)) (g := (mkF m 11 #[.val (.ref a4_0), .val (.ref a4_1), .val (.int p4_2)] [(.int p4_2), (.ref a4_1), (.int (1 : Int32)), (.ref a4_0)])) rfl (by rw [hml]; rfl) (argsL := [(.ref a4_0), (.int (1 : Int32)), (.ref a4_1), (.int p4_2)]) (rest := []) (lenOf pd_3 rfl) rfl (by show 2 * 0 + _ ≤ _; exact Nat.le_of_eq rfl) (hb hby d4_11) (fun _ _ => ⟨rfl, rfl, (by decide : 0 + 0 ≤ _), (by decide : 0 + 0 ≤ _)⟩)
  dsimp only [Pt.U, Pt.locs, Pt.cells, Pt.slots] at X8 l8 y8 z8 st8 hQ8
  rw [l8, y8, z8] at X8
  obtain ⟨cb_8, rfl, N8q, Kc8, G8_0, P8_0, P8_1⟩ := hQ8
  have Zs8 : n0 ≤ T8.heap.size := Nat.le_trans Zs1 Kc8.1
  have K8 : Keep h0 T8.heap [a4_0] := K1.trans Kc8 (allS (Or.inl (List.mem_of_getElem? (i := 0) rfl)) all0)
  have F9 := F2.keep Kc8
  have F10 := F3.keep Kc8 (ninS hne1 nin0)
  have F11 := F4.keep Kc8 (ninS hne1 nin0)
  have F12 := F5.keep Kc8 (ninS hne2 nin0)
  have F13 := own_stakeep F6 Kc8 (allS (own_nsV G1_0) all0)
  have F14 := own_stakeep F7 Kc8 (allS (own_nsV G1_0) all0)
  have N8 := Fr.app N1 N8q
  obtain ⟨_, _, ⟨T15, L15, k15, n15⟩, -, X15, ⟨Lc15, hQ15, l15, y15, z15⟩, st15⟩ := Jvm.LawKit.callS X8 hx (y := (⟨"com/example/leanweave/leanweave/QosMeasureOfColumnPinLaw", "put", "([CILjava/lang/String;C)V"⟩ : MethodName)) hown (mvT hZ (wd hw 27 rfl)) (mvT hZ (wd hw 28 rfl)) (mvT hZ (wd hw 25 rfl)) (mvT hZ (wd hw 29 rfl)) (by decide) (backOf (W := 0) (rm3 l Z a0 hw [] a4_0 (2 : Int32) a4_1 p4_2 kk nn cb_8 tl kl ls cs fm T8.heap n0 Zs8 G8_0 F9 F10 F11 F12 F13 F14 P8_0 P8_1 hb_ls hl_ls hcs hfm (by decide : ¬ ((2 : Int32) < (0 : Int32))) hp3a hp3b hne1 hne2 g_a4_0) hZ (wd hw 29 rfl) (wd hw 25 rfl) (by decide) (by decide)) (g := (mkF m 18 #[.val (.ref a4_0), .val (.ref a4_1), .val (.int p4_2)] [(.int p4_2), (.ref a4_1), (.int (2 : Int32)), (.ref a4_0)])) rfl (by rw [hml]; rfl) (argsL := [(.ref a4_0), (.int (2 : Int32)), (.ref a4_1), (.int p4_2)]) (rest := []) (lenOf pd_3 rfl) rfl (by show 2 * 0 + _ ≤ _; exact Nat.le_of_eq rfl) (hb hby d4_18) (fun _ _ => ⟨rfl, rfl, (by decide : 0 + 0 ≤ _), (by decide : 0 + 0 ≤ _)⟩)
  dsimp only [Pt.U, Pt.locs, Pt.cells, Pt.slots] at X15 l15 y15 z15 st15 hQ15
  rw [l15, y15, z15] at X15
  obtain ⟨cb_15, rfl, N15q, Kc15, G15_0, P15_0, P15_1⟩ := hQ15
  have Zs15 : n0 ≤ T15.heap.size := Nat.le_trans Zs8 Kc15.1
  have K15 : Keep h0 T15.heap [a4_0] := K8.trans Kc15 (allS (Or.inl (List.mem_of_getElem? (i := 0) rfl)) all0)
  have F16 := F9.keep Kc15
  have F17 := F10.keep Kc15 (ninS hne1 nin0)
  have F18 := F11.keep Kc15 (ninS hne1 nin0)
  have F19 := F12.keep Kc15 (ninS hne2 nin0)
  have F20 := own_stakeep F13 Kc15 (allS (own_nsV G8_0) all0)
  have F21 := own_stakeep F14 Kc15 (allS (own_nsV G8_0) all0)
  have N15 := Fr.app N8 N15q
  obtain ⟨_, _, ⟨T22, L22, k22, n22⟩, -, X22, ⟨Lc22, hQ22, l22, y22, z22⟩, st22⟩ := Jvm.LawKit.callS X15 hx (y := (⟨"com/example/leanweave/leanweave/QosMeasureOfColumnPinLaw", "put", "([CILjava/lang/String;C)V"⟩ : MethodName)) hown (mvT hZ (wd hw 27 rfl)) (mvT hZ (wd hw 28 rfl)) (mvT hZ (wd hw 25 rfl)) (mvT hZ (wd hw 29 rfl)) (by decide) (backOf (W := 0) (rm3 l Z a0 hw [] a4_0 (3 : Int32) a4_1 p4_2 kk nn cb_15 tl kl ls cs fm T15.heap n0 Zs15 G15_0 F16 F17 F18 F19 F20 F21 P15_0 P15_1 hb_ls hl_ls hcs hfm (by decide : ¬ ((3 : Int32) < (0 : Int32))) hp3a hp3b hne1 hne2 g_a4_0) hZ (wd hw 29 rfl) (wd hw 25 rfl) (by decide) (by decide)) (g := (mkF m 25 #[.val (.ref a4_0), .val (.ref a4_1), .val (.int p4_2)] [(.int p4_2), (.ref a4_1), (.int (3 : Int32)), (.ref a4_0)])) rfl (by rw [hml]; rfl) (argsL := [(.ref a4_0), (.int (3 : Int32)), (.ref a4_1), (.int p4_2)]) (rest := []) (lenOf pd_3 rfl) rfl (by show 2 * 0 + _ ≤ _; exact Nat.le_of_eq rfl) (hb hby d4_25) (fun _ _ => ⟨rfl, rfl, (by decide : 0 + 0 ≤ _), (by decide : 0 + 0 ≤ _)⟩)
  dsimp only [Pt.U, Pt.locs, Pt.cells, Pt.slots] at X22 l22 y22 z22 st22 hQ22
  rw [l22, y22, z22] at X22
  obtain ⟨cb_22, rfl, N22q, Kc22, G22_0, P22_0, P22_1⟩ := hQ22
  have Zs22 : n0 ≤ T22.heap.size := Nat.le_trans Zs15 Kc22.1
  have K22 : Keep h0 T22.heap [a4_0] := K15.trans Kc22 (allS (Or.inl (List.mem_of_getElem? (i := 0) rfl)) all0)
  have F23 := F16.keep Kc22
  have F24 := F17.keep Kc22 (ninS hne1 nin0)
  have F25 := F18.keep Kc22 (ninS hne1 nin0)
  have F26 := F19.keep Kc22 (ninS hne2 nin0)
  have F27 := own_stakeep F20 Kc22 (allS (own_nsV G15_0) all0)
  have F28 := own_stakeep F21 Kc22 (allS (own_nsV G15_0) all0)
  have N22 := Fr.app N15 N22q
  obtain ⟨_, _, ⟨T29, L29, k29, n29⟩, -, X29, ⟨Lc29, hQ29, l29, y29, z29⟩, st29⟩ := Jvm.LawKit.callS X22 hx (y := (⟨"com/example/leanweave/leanweave/QosMeasureOfColumnPinLaw", "put", "([CILjava/lang/String;C)V"⟩ : MethodName)) hown (mvT hZ (wd hw 27 rfl)) (mvT hZ (wd hw 28 rfl)) (mvT hZ (wd hw 25 rfl)) (mvT hZ (wd hw 29 rfl)) (by decide) (backOf (W := 0) (rm3 l Z a0 hw [] a4_0 (4 : Int32) a4_1 p4_2 kk nn cb_22 tl kl ls cs fm T22.heap n0 Zs22 G22_0 F23 F24 F25 F26 F27 F28 P22_0 P22_1 hb_ls hl_ls hcs hfm (by decide : ¬ ((4 : Int32) < (0 : Int32))) hp3a hp3b hne1 hne2 g_a4_0) hZ (wd hw 29 rfl) (wd hw 25 rfl) (by decide) (by decide)) (g := (mkF m 32 #[.val (.ref a4_0), .val (.ref a4_1), .val (.int p4_2)] [(.int p4_2), (.ref a4_1), (.int (4 : Int32)), (.ref a4_0)])) rfl (by rw [hml]; rfl) (argsL := [(.ref a4_0), (.int (4 : Int32)), (.ref a4_1), (.int p4_2)]) (rest := []) (lenOf pd_3 rfl) rfl (by show 2 * 0 + _ ≤ _; exact Nat.le_of_eq rfl) (hb hby d4_32) (fun _ _ => ⟨rfl, rfl, (by decide : 0 + 0 ≤ _), (by decide : 0 + 0 ≤ _)⟩)
  dsimp only [Pt.U, Pt.locs, Pt.cells, Pt.slots] at X29 l29 y29 z29 st29 hQ29
  rw [l29, y29, z29] at X29
  obtain ⟨cb_29, rfl, N29q, Kc29, G29_0, P29_0, P29_1⟩ := hQ29
  have Zs29 : n0 ≤ T29.heap.size := Nat.le_trans Zs22 Kc29.1
  have K29 : Keep h0 T29.heap [a4_0] := K22.trans Kc29 (allS (Or.inl (List.mem_of_getElem? (i := 0) rfl)) all0)
  have F30 := F23.keep Kc29
  have F31 := F24.keep Kc29 (ninS hne1 nin0)
  have F32 := F25.keep Kc29 (ninS hne1 nin0)
  have F33 := F26.keep Kc29 (ninS hne2 nin0)
  have F34 := own_stakeep F27 Kc29 (allS (own_nsV G22_0) all0)
  have F35 := own_stakeep F28 Kc29 (allS (own_nsV G22_0) all0)
  have N29 := Fr.app N22 N29q
  obtain ⟨_, _, ⟨T36, L36, k36, n36⟩, -, X36, ⟨Lc36, hQ36, l36, y36, z36⟩, st36⟩ := Jvm.LawKit.callS X29 hx (y := (⟨"com/example/leanweave/leanweave/QosMeasureOfColumnPinLaw", "put", "([CILjava/lang/String;C)V"⟩ : MethodName)) hown (mvT hZ (wd hw 27 rfl)) (mvT hZ (wd hw 28 rfl)) (mvT hZ (wd hw 25 rfl)) (mvT hZ (wd hw 29 rfl)) (by decide) (backOf (W := 0) (rm3 l Z a0 hw [] a4_0 (5 : Int32) a4_1 p4_2 kk nn cb_29 tl kl ls cs fm T29.heap n0 Zs29 G29_0 F30 F31 F32 F33 F34 F35 P29_0 P29_1 hb_ls hl_ls hcs hfm (by decide : ¬ ((5 : Int32) < (0 : Int32))) hp3a hp3b hne1 hne2 g_a4_0) hZ (wd hw 29 rfl) (wd hw 25 rfl) (by decide) (by decide)) (g := (mkF m 39 #[.val (.ref a4_0), .val (.ref a4_1), .val (.int p4_2)] [(.int p4_2), (.ref a4_1), (.int (5 : Int32)), (.ref a4_0)])) rfl (by rw [hml]; rfl) (argsL := [(.ref a4_0), (.int (5 : Int32)), (.ref a4_1), (.int p4_2)]) (rest := []) (lenOf pd_3 rfl) rfl (by show 2 * 0 + _ ≤ _; exact Nat.le_of_eq rfl) (hb hby d4_39) (fun _ _ => ⟨rfl, rfl, (by decide : 0 + 0 ≤ _), (by decide : 0 + 0 ≤ _)⟩)
  dsimp only [Pt.U, Pt.locs, Pt.cells, Pt.slots] at X36 l36 y36 z36 st36 hQ36
  rw [l36, y36, z36] at X36
  obtain ⟨cb_36, rfl, N36q, Kc36, G36_0, P36_0, P36_1⟩ := hQ36
  have Zs36 : n0 ≤ T36.heap.size := Nat.le_trans Zs29 Kc36.1
  have K36 : Keep h0 T36.heap [a4_0] := K29.trans Kc36 (allS (Or.inl (List.mem_of_getElem? (i := 0) rfl)) all0)
  have F37 := F30.keep Kc36
  have F38 := F31.keep Kc36 (ninS hne1 nin0)
  have F39 := F32.keep Kc36 (ninS hne1 nin0)
  have F40 := F33.keep Kc36 (ninS hne2 nin0)
  have F41 := own_stakeep F34 Kc36 (allS (own_nsV G29_0) all0)
  have F42 := own_stakeep F35 Kc36 (allS (own_nsV G29_0) all0)
  have N36 := Fr.app N29 N36q
  obtain ⟨_, _, ⟨T43, L43, k43, n43⟩, -, X43, ⟨Lc43, hQ43, l43, y43, z43⟩, st43⟩ := Jvm.LawKit.callS X36 hx (y := (⟨"com/example/leanweave/leanweave/QosMeasureOfColumnPinLaw", "put", "([CILjava/lang/String;C)V"⟩ : MethodName)) hown (mvT hZ (wd hw 27 rfl)) (mvT hZ (wd hw 28 rfl)) (mvT hZ (wd hw 25 rfl)) (mvT hZ (wd hw 29 rfl)) (by decide) (backOf (W := 0) (rm3 l Z a0 hw [] a4_0 (6 : Int32) a4_1 p4_2 kk nn cb_36 tl kl ls cs fm T36.heap n0 Zs36 G36_0 F37 F38 F39 F40 F41 F42 P36_0 P36_1 hb_ls hl_ls hcs hfm (by decide : ¬ ((6 : Int32) < (0 : Int32))) hp3a hp3b hne1 hne2 g_a4_0) hZ (wd hw 29 rfl) (wd hw 25 rfl) (by decide) (by decide)) (g := (mkF m 47 #[.val (.ref a4_0), .val (.ref a4_1), .val (.int p4_2)] [(.int p4_2), (.ref a4_1), (.int (6 : Int32)), (.ref a4_0)])) rfl (by rw [hml]; rfl) (argsL := [(.ref a4_0), (.int (6 : Int32)), (.ref a4_1), (.int p4_2)]) (rest := []) (lenOf pd_3 rfl) rfl (by show 2 * 0 + _ ≤ _; exact Nat.le_of_eq rfl) (hb hby d4_47) (fun _ _ => ⟨rfl, rfl, (by decide : 0 + 0 ≤ _), (by decide : 0 + 0 ≤ _)⟩)
  dsimp only [Pt.U, Pt.locs, Pt.cells, Pt.slots] at X43 l43 y43 z43 st43 hQ43
  rw [l43, y43, z43] at X43
  obtain ⟨cb_43, rfl, N43q, Kc43, G43_0, P43_0, P43_1⟩ := hQ43
  have Zs43 : n0 ≤ T43.heap.size := Nat.le_trans Zs36 Kc43.1
  have K43 : Keep h0 T43.heap [a4_0] := K36.trans Kc43 (allS (Or.inl (List.mem_of_getElem? (i := 0) rfl)) all0)
  have F44 := F37.keep Kc43
  have F45 := F38.keep Kc43 (ninS hne1 nin0)
  have F46 := F39.keep Kc43 (ninS hne1 nin0)
  have F47 := F40.keep Kc43 (ninS hne2 nin0)
  have F48 := own_stakeep F41 Kc43 (allS (own_nsV G36_0) all0)
  have F49 := own_stakeep F42 Kc43 (allS (own_nsV G36_0) all0)
  have N43 := Fr.app N36 N43q
  obtain ⟨_, _, ⟨T50, L50, k50, n50⟩, -, X50, ⟨Lc50, hQ50, l50, y50, z50⟩, st50⟩ := Jvm.LawKit.callS X43 hx (y := (⟨"com/example/leanweave/leanweave/QosMeasureOfColumnPinLaw", "put", "([CILjava/lang/String;C)V"⟩ : MethodName)) hown (mvT hZ (wd hw 27 rfl)) (mvT hZ (wd hw 28 rfl)) (mvT hZ (wd hw 25 rfl)) (mvT hZ (wd hw 29 rfl)) (by decide) (backOf (W := 0) (rm3 l Z a0 hw [] a4_0 (7 : Int32) a4_1 p4_2 kk nn cb_43 tl kl ls cs fm T43.heap n0 Zs43 G43_0 F44 F45 F46 F47 F48 F49 P43_0 P43_1 hb_ls hl_ls hcs hfm (by decide : ¬ ((7 : Int32) < (0 : Int32))) hp3a hp3b hne1 hne2 g_a4_0) hZ (wd hw 29 rfl) (wd hw 25 rfl) (by decide) (by decide)) (g := (mkF m 55 #[.val (.ref a4_0), .val (.ref a4_1), .val (.int p4_2)] [(.int p4_2), (.ref a4_1), (.int (7 : Int32)), (.ref a4_0)])) rfl (by rw [hml]; rfl) (argsL := [(.ref a4_0), (.int (7 : Int32)), (.ref a4_1), (.int p4_2)]) (rest := []) (lenOf pd_3 rfl) rfl (by show 2 * 0 + _ ≤ _; exact Nat.le_of_eq rfl) (hb hby d4_55) (fun _ _ => ⟨rfl, rfl, (by decide : 0 + 0 ≤ _), (by decide : 0 + 0 ≤ _)⟩)
  dsimp only [Pt.U, Pt.locs, Pt.cells, Pt.slots] at X50 l50 y50 z50 st50 hQ50
  rw [l50, y50, z50] at X50
  obtain ⟨cb_50, rfl, N50q, Kc50, G50_0, P50_0, P50_1⟩ := hQ50
  have Zs50 : n0 ≤ T50.heap.size := Nat.le_trans Zs43 Kc50.1
  have K50 : Keep h0 T50.heap [a4_0] := K43.trans Kc50 (allS (Or.inl (List.mem_of_getElem? (i := 0) rfl)) all0)
  have F51 := F44.keep Kc50
  have F52 := F45.keep Kc50 (ninS hne1 nin0)
  have F53 := F46.keep Kc50 (ninS hne1 nin0)
  have F54 := F47.keep Kc50 (ninS hne2 nin0)
  have F55 := own_stakeep F48 Kc50 (allS (own_nsV G43_0) all0)
  have F56 := own_stakeep F49 Kc50 (allS (own_nsV G43_0) all0)
  have N50 := Fr.app N43 N50q
  obtain ⟨_, _, ⟨T57, L57, k57, n57⟩, -, X57, ⟨Lc57, hQ57, l57, y57, z57⟩, st57⟩ := Jvm.LawKit.callS X50 hx (y := (⟨"com/example/leanweave/leanweave/QosMeasureOfColumnPinLaw", "put", "([CILjava/lang/String;C)V"⟩ : MethodName)) hown (mvT hZ (wd hw 27 rfl)) (mvT hZ (wd hw 28 rfl)) (mvT hZ (wd hw 25 rfl)) (mvT hZ (wd hw 29 rfl)) (by decide) (backOf (W := 0) (rm3 l Z a0 hw [] a4_0 (8 : Int32) a4_1 p4_2 kk nn cb_50 tl kl ls cs fm T50.heap n0 Zs50 G50_0 F51 F52 F53 F54 F55 F56 P50_0 P50_1 hb_ls hl_ls hcs hfm (by decide : ¬ ((8 : Int32) < (0 : Int32))) hp3a hp3b hne1 hne2 g_a4_0) hZ (wd hw 29 rfl) (wd hw 25 rfl) (by decide) (by decide)) (g := (mkF m 63 #[.val (.ref a4_0), .val (.ref a4_1), .val (.int p4_2)] [(.int p4_2), (.ref a4_1), (.int (8 : Int32)), (.ref a4_0)])) rfl (by rw [hml]; rfl) (argsL := [(.ref a4_0), (.int (8 : Int32)), (.ref a4_1), (.int p4_2)]) (rest := []) (lenOf pd_3 rfl) rfl (by show 2 * 0 + _ ≤ _; exact Nat.le_of_eq rfl) (hb hby d4_63) (fun _ _ => ⟨rfl, rfl, (by decide : 0 + 0 ≤ _), (by decide : 0 + 0 ≤ _)⟩)
  dsimp only [Pt.U, Pt.locs, Pt.cells, Pt.slots] at X57 l57 y57 z57 st57 hQ57
  rw [l57, y57, z57] at X57
  obtain ⟨cb_57, rfl, N57q, Kc57, G57_0, P57_0, P57_1⟩ := hQ57
  have Zs57 : n0 ≤ T57.heap.size := Nat.le_trans Zs50 Kc57.1
  have K57 : Keep h0 T57.heap [a4_0] := K50.trans Kc57 (allS (Or.inl (List.mem_of_getElem? (i := 0) rfl)) all0)
  have F58 := F51.keep Kc57
  have F59 := F52.keep Kc57 (ninS hne1 nin0)
  have F60 := F53.keep Kc57 (ninS hne1 nin0)
  have F61 := F54.keep Kc57 (ninS hne2 nin0)
  have F62 := own_stakeep F55 Kc57 (allS (own_nsV G50_0) all0)
  have F63 := own_stakeep F56 Kc57 (allS (own_nsV G50_0) all0)
  have N57 := Fr.app N50 N57q
  obtain ⟨_, _, ⟨T64, L64, k64, n64⟩, -, X64, ⟨Lc64, hQ64, l64, y64, z64⟩, st64⟩ := Jvm.LawKit.callS X57 hx (y := (⟨"com/example/leanweave/leanweave/QosMeasureOfColumnPinLaw", "put", "([CILjava/lang/String;C)V"⟩ : MethodName)) hown (mvT hZ (wd hw 27 rfl)) (mvT hZ (wd hw 28 rfl)) (mvT hZ (wd hw 25 rfl)) (mvT hZ (wd hw 29 rfl)) (by decide) (backOf (W := 0) (rm3 l Z a0 hw [] a4_0 (9 : Int32) a4_1 p4_2 kk nn cb_57 tl kl ls cs fm T57.heap n0 Zs57 G57_0 F58 F59 F60 F61 F62 F63 P57_0 P57_1 hb_ls hl_ls hcs hfm (by decide : ¬ ((9 : Int32) < (0 : Int32))) hp3a hp3b hne1 hne2 g_a4_0) hZ (wd hw 29 rfl) (wd hw 25 rfl) (by decide) (by decide)) (g := (mkF m 71 #[.val (.ref a4_0), .val (.ref a4_1), .val (.int p4_2)] [(.int p4_2), (.ref a4_1), (.int (9 : Int32)), (.ref a4_0)])) rfl (by rw [hml]; rfl) (argsL := [(.ref a4_0), (.int (9 : Int32)), (.ref a4_1), (.int p4_2)]) (rest := []) (lenOf pd_3 rfl) rfl (by show 2 * 0 + _ ≤ _; exact Nat.le_of_eq rfl) (hb hby d4_71) (fun _ _ => ⟨rfl, rfl, (by decide : 0 + 0 ≤ _), (by decide : 0 + 0 ≤ _)⟩)
  dsimp only [Pt.U, Pt.locs, Pt.cells, Pt.slots] at X64 l64 y64 z64 st64 hQ64
  rw [l64, y64, z64] at X64
  obtain ⟨cb_64, rfl, N64q, Kc64, G64_0, P64_0, P64_1⟩ := hQ64
  have Zs64 : n0 ≤ T64.heap.size := Nat.le_trans Zs57 Kc64.1
  have K64 : Keep h0 T64.heap [a4_0] := K57.trans Kc64 (allS (Or.inl (List.mem_of_getElem? (i := 0) rfl)) all0)
  have F65 := F58.keep Kc64
  have F66 := F59.keep Kc64 (ninS hne1 nin0)
  have F67 := F60.keep Kc64 (ninS hne1 nin0)
  have F68 := F61.keep Kc64 (ninS hne2 nin0)
  have F69 := own_stakeep F62 Kc64 (allS (own_nsV G57_0) all0)
  have F70 := own_stakeep F63 Kc64 (allS (own_nsV G57_0) all0)
  have N64 := Fr.app N57 N64q
  obtain ⟨_, _, ⟨T71, L71, k71, n71⟩, -, X71, ⟨Lc71, hQ71, l71, y71, z71⟩, st71⟩ := Jvm.LawKit.callS X64 hx (y := (⟨"com/example/leanweave/leanweave/QosMeasureOfColumnPinLaw", "put", "([CILjava/lang/String;C)V"⟩ : MethodName)) hown (mvT hZ (wd hw 27 rfl)) (mvT hZ (wd hw 28 rfl)) (mvT hZ (wd hw 25 rfl)) (mvT hZ (wd hw 29 rfl)) (by decide) (backOf (W := 0) (rm3 l Z a0 hw [] a4_0 (10 : Int32) a4_1 p4_2 kk nn cb_64 tl kl ls cs fm T64.heap n0 Zs64 G64_0 F65 F66 F67 F68 F69 F70 P64_0 P64_1 hb_ls hl_ls hcs hfm (by decide : ¬ ((10 : Int32) < (0 : Int32))) hp3a hp3b hne1 hne2 g_a4_0) hZ (wd hw 29 rfl) (wd hw 25 rfl) (by decide) (by decide)) (g := (mkF m 79 #[.val (.ref a4_0), .val (.ref a4_1), .val (.int p4_2)] [(.int p4_2), (.ref a4_1), (.int (10 : Int32)), (.ref a4_0)])) rfl (by rw [hml]; rfl) (argsL := [(.ref a4_0), (.int (10 : Int32)), (.ref a4_1), (.int p4_2)]) (rest := []) (lenOf pd_3 rfl) rfl (by show 2 * 0 + _ ≤ _; exact Nat.le_of_eq rfl) (hb hby d4_79) (fun _ _ => ⟨rfl, rfl, (by decide : 0 + 0 ≤ _), (by decide : 0 + 0 ≤ _)⟩)
  dsimp only [Pt.U, Pt.locs, Pt.cells, Pt.slots] at X71 l71 y71 z71 st71 hQ71
  rw [l71, y71, z71] at X71
  obtain ⟨cb_71, rfl, N71q, Kc71, G71_0, P71_0, P71_1⟩ := hQ71
  have Zs71 : n0 ≤ T71.heap.size := Nat.le_trans Zs64 Kc71.1
  have K71 : Keep h0 T71.heap [a4_0] := K64.trans Kc71 (allS (Or.inl (List.mem_of_getElem? (i := 0) rfl)) all0)
  have F72 := F65.keep Kc71
  have F73 := F66.keep Kc71 (ninS hne1 nin0)
  have F74 := F67.keep Kc71 (ninS hne1 nin0)
  have F75 := F68.keep Kc71 (ninS hne2 nin0)
  have F76 := own_stakeep F69 Kc71 (allS (own_nsV G64_0) all0)
  have F77 := own_stakeep F70 Kc71 (allS (own_nsV G64_0) all0)
  have N71 := Fr.app N64 N71q
  obtain ⟨_, _, ⟨T78, L78, k78, n78⟩, -, X78, ⟨Lc78, hQ78, l78, y78, z78⟩, st78⟩ := Jvm.LawKit.callS X71 hx (y := (⟨"com/example/leanweave/leanweave/QosMeasureOfColumnPinLaw", "put", "([CILjava/lang/String;C)V"⟩ : MethodName)) hown (mvT hZ (wd hw 27 rfl)) (mvT hZ (wd hw 28 rfl)) (mvT hZ (wd hw 25 rfl)) (mvT hZ (wd hw 29 rfl)) (by decide) (backOf (W := 0) (rm3 l Z a0 hw [] a4_0 (11 : Int32) a4_1 p4_2 kk nn cb_71 tl kl ls cs fm T71.heap n0 Zs71 G71_0 F72 F73 F74 F75 F76 F77 P71_0 P71_1 hb_ls hl_ls hcs hfm (by decide : ¬ ((11 : Int32) < (0 : Int32))) hp3a hp3b hne1 hne2 g_a4_0) hZ (wd hw 29 rfl) (wd hw 25 rfl) (by decide) (by decide)) (g := (mkF m 87 #[.val (.ref a4_0), .val (.ref a4_1), .val (.int p4_2)] [(.int p4_2), (.ref a4_1), (.int (11 : Int32)), (.ref a4_0)])) rfl (by rw [hml]; rfl) (argsL := [(.ref a4_0), (.int (11 : Int32)), (.ref a4_1), (.int p4_2)]) (rest := []) (lenOf pd_3 rfl) rfl (by show 2 * 0 + _ ≤ _; exact Nat.le_of_eq rfl) (hb hby d4_87) (fun _ _ => ⟨rfl, rfl, (by decide : 0 + 0 ≤ _), (by decide : 0 + 0 ≤ _)⟩)
  dsimp only [Pt.U, Pt.locs, Pt.cells, Pt.slots] at X78 l78 y78 z78 st78 hQ78
  rw [l78, y78, z78] at X78
  obtain ⟨cb_78, rfl, N78q, Kc78, G78_0, P78_0, P78_1⟩ := hQ78
  have Zs78 : n0 ≤ T78.heap.size := Nat.le_trans Zs71 Kc78.1
  have K78 : Keep h0 T78.heap [a4_0] := K71.trans Kc78 (allS (Or.inl (List.mem_of_getElem? (i := 0) rfl)) all0)
  have F79 := F72.keep Kc78
  have F80 := F73.keep Kc78 (ninS hne1 nin0)
  have F81 := F74.keep Kc78 (ninS hne1 nin0)
  have F82 := F75.keep Kc78 (ninS hne2 nin0)
  have F83 := own_stakeep F76 Kc78 (allS (own_nsV G71_0) all0)
  have F84 := own_stakeep F77 Kc78 (allS (own_nsV G71_0) all0)
  have N78 := Fr.app N71 N78q
  obtain ⟨_, _, ⟨T85, L85, k85, n85⟩, -, X85, ⟨Lc85, hQ85, l85, y85, z85⟩, st85⟩ := Jvm.LawKit.callS X78 hx (y := (⟨"com/example/leanweave/leanweave/QosMeasureOfColumnPinLaw", "put", "([CILjava/lang/String;C)V"⟩ : MethodName)) hown (mvT hZ (wd hw 27 rfl)) (mvT hZ (wd hw 28 rfl)) (mvT hZ (wd hw 25 rfl)) (mvT hZ (wd hw 29 rfl)) (by decide) (backOf (W := 0) (rm3 l Z a0 hw [] a4_0 (12 : Int32) a4_1 p4_2 kk nn cb_78 tl kl ls cs fm T78.heap n0 Zs78 G78_0 F79 F80 F81 F82 F83 F84 P78_0 P78_1 hb_ls hl_ls hcs hfm (by decide : ¬ ((12 : Int32) < (0 : Int32))) hp3a hp3b hne1 hne2 g_a4_0) hZ (wd hw 29 rfl) (wd hw 25 rfl) (by decide) (by decide)) (g := (mkF m 95 #[.val (.ref a4_0), .val (.ref a4_1), .val (.int p4_2)] [(.int p4_2), (.ref a4_1), (.int (12 : Int32)), (.ref a4_0)])) rfl (by rw [hml]; rfl) (argsL := [(.ref a4_0), (.int (12 : Int32)), (.ref a4_1), (.int p4_2)]) (rest := []) (lenOf pd_3 rfl) rfl (by show 2 * 0 + _ ≤ _; exact Nat.le_of_eq rfl) (hb hby d4_95) (fun _ _ => ⟨rfl, rfl, (by decide : 0 + 0 ≤ _), (by decide : 0 + 0 ≤ _)⟩)
  dsimp only [Pt.U, Pt.locs, Pt.cells, Pt.slots] at X85 l85 y85 z85 st85 hQ85
  rw [l85, y85, z85] at X85
  obtain ⟨cb_85, rfl, N85q, Kc85, G85_0, P85_0, P85_1⟩ := hQ85
  have Zs85 : n0 ≤ T85.heap.size := Nat.le_trans Zs78 Kc85.1
  have K85 : Keep h0 T85.heap [a4_0] := K78.trans Kc85 (allS (Or.inl (List.mem_of_getElem? (i := 0) rfl)) all0)
  have F86 := F79.keep Kc85
  have F87 := F80.keep Kc85 (ninS hne1 nin0)
  have F88 := F81.keep Kc85 (ninS hne1 nin0)
  have F89 := F82.keep Kc85 (ninS hne2 nin0)
  have F90 := own_stakeep F83 Kc85 (allS (own_nsV G78_0) all0)
  have F91 := own_stakeep F84 Kc85 (allS (own_nsV G78_0) all0)
  have N85 := Fr.app N78 N85q
  obtain ⟨_, _, ⟨T92, L92, k92, n92⟩, -, X92, ⟨Lc92, hQ92, l92, y92, z92⟩, st92⟩ := Jvm.LawKit.callS X85 hx (y := (⟨"com/example/leanweave/leanweave/QosMeasureOfColumnPinLaw", "put", "([CILjava/lang/String;C)V"⟩ : MethodName)) hown (mvT hZ (wd hw 27 rfl)) (mvT hZ (wd hw 28 rfl)) (mvT hZ (wd hw 25 rfl)) (mvT hZ (wd hw 29 rfl)) (by decide) (backOf (W := 0) (rm3 l Z a0 hw [] a4_0 (13 : Int32) a4_1 p4_2 kk nn cb_85 tl kl ls cs fm T85.heap n0 Zs85 G85_0 F86 F87 F88 F89 F90 F91 P85_0 P85_1 hb_ls hl_ls hcs hfm (by decide : ¬ ((13 : Int32) < (0 : Int32))) hp3a hp3b hne1 hne2 g_a4_0) hZ (wd hw 29 rfl) (wd hw 25 rfl) (by decide) (by decide)) (g := (mkF m 103 #[.val (.ref a4_0), .val (.ref a4_1), .val (.int p4_2)] [(.int p4_2), (.ref a4_1), (.int (13 : Int32)), (.ref a4_0)])) rfl (by rw [hml]; rfl) (argsL := [(.ref a4_0), (.int (13 : Int32)), (.ref a4_1), (.int p4_2)]) (rest := []) (lenOf pd_3 rfl) rfl (by show 2 * 0 + _ ≤ _; exact Nat.le_of_eq rfl) (hb hby d4_103) (fun _ _ => ⟨rfl, rfl, (by decide : 0 + 0 ≤ _), (by decide : 0 + 0 ≤ _)⟩)
  dsimp only [Pt.U, Pt.locs, Pt.cells, Pt.slots] at X92 l92 y92 z92 st92 hQ92
  rw [l92, y92, z92] at X92
  obtain ⟨cb_92, rfl, N92q, Kc92, G92_0, P92_0, P92_1⟩ := hQ92
  have Zs92 : n0 ≤ T92.heap.size := Nat.le_trans Zs85 Kc92.1
  have K92 : Keep h0 T92.heap [a4_0] := K85.trans Kc92 (allS (Or.inl (List.mem_of_getElem? (i := 0) rfl)) all0)
  have F93 := F86.keep Kc92
  have F94 := F87.keep Kc92 (ninS hne1 nin0)
  have F95 := F88.keep Kc92 (ninS hne1 nin0)
  have F96 := F89.keep Kc92 (ninS hne2 nin0)
  have F97 := own_stakeep F90 Kc92 (allS (own_nsV G85_0) all0)
  have F98 := own_stakeep F91 Kc92 (allS (own_nsV G85_0) all0)
  have N92 := Fr.app N85 N92q
  obtain ⟨_, _, ⟨T99, L99, k99, n99⟩, -, X99, ⟨Lc99, hQ99, l99, y99, z99⟩, st99⟩ := Jvm.LawKit.callS X92 hx (y := (⟨"com/example/leanweave/leanweave/QosMeasureOfColumnPinLaw", "put", "([CILjava/lang/String;C)V"⟩ : MethodName)) hown (mvT hZ (wd hw 27 rfl)) (mvT hZ (wd hw 28 rfl)) (mvT hZ (wd hw 25 rfl)) (mvT hZ (wd hw 29 rfl)) (by decide) (backOf (W := 0) (rm3 l Z a0 hw [] a4_0 (14 : Int32) a4_1 p4_2 kk nn cb_92 tl kl ls cs fm T92.heap n0 Zs92 G92_0 F93 F94 F95 F96 F97 F98 P92_0 P92_1 hb_ls hl_ls hcs hfm (by decide : ¬ ((14 : Int32) < (0 : Int32))) hp3a hp3b hne1 hne2 g_a4_0) hZ (wd hw 29 rfl) (wd hw 25 rfl) (by decide) (by decide)) (g := (mkF m 111 #[.val (.ref a4_0), .val (.ref a4_1), .val (.int p4_2)] [(.int p4_2), (.ref a4_1), (.int (14 : Int32)), (.ref a4_0)])) rfl (by rw [hml]; rfl) (argsL := [(.ref a4_0), (.int (14 : Int32)), (.ref a4_1), (.int p4_2)]) (rest := []) (lenOf pd_3 rfl) rfl (by show 2 * 0 + _ ≤ _; exact Nat.le_of_eq rfl) (hb hby d4_111) (fun _ _ => ⟨rfl, rfl, (by decide : 0 + 0 ≤ _), (by decide : 0 + 0 ≤ _)⟩)
  dsimp only [Pt.U, Pt.locs, Pt.cells, Pt.slots] at X99 l99 y99 z99 st99 hQ99
  rw [l99, y99, z99] at X99
  obtain ⟨cb_99, rfl, N99q, Kc99, G99_0, P99_0, P99_1⟩ := hQ99
  have Zs99 : n0 ≤ T99.heap.size := Nat.le_trans Zs92 Kc99.1
  have K99 : Keep h0 T99.heap [a4_0] := K92.trans Kc99 (allS (Or.inl (List.mem_of_getElem? (i := 0) rfl)) all0)
  have F100 := F93.keep Kc99
  have F101 := F94.keep Kc99 (ninS hne1 nin0)
  have F102 := F95.keep Kc99 (ninS hne1 nin0)
  have F103 := F96.keep Kc99 (ninS hne2 nin0)
  have F104 := own_stakeep F97 Kc99 (allS (own_nsV G92_0) all0)
  have F105 := own_stakeep F98 Kc99 (allS (own_nsV G92_0) all0)
  have N99 := Fr.app N92 N99q
  obtain ⟨_, _, ⟨T106, L106, k106, n106⟩, -, X106, ⟨Lc106, hQ106, l106, y106, z106⟩, st106⟩ := Jvm.LawKit.callS X99 hx (y := (⟨"com/example/leanweave/leanweave/QosMeasureOfColumnPinLaw", "put", "([CILjava/lang/String;C)V"⟩ : MethodName)) hown (mvT hZ (wd hw 27 rfl)) (mvT hZ (wd hw 28 rfl)) (mvT hZ (wd hw 25 rfl)) (mvT hZ (wd hw 29 rfl)) (by decide) (backOf (W := 0) (rm3 l Z a0 hw [] a4_0 (15 : Int32) a4_1 p4_2 kk nn cb_99 tl kl ls cs fm T99.heap n0 Zs99 G99_0 F100 F101 F102 F103 F104 F105 P99_0 P99_1 hb_ls hl_ls hcs hfm (by decide : ¬ ((15 : Int32) < (0 : Int32))) hp3a hp3b hne1 hne2 g_a4_0) hZ (wd hw 29 rfl) (wd hw 25 rfl) (by decide) (by decide)) (g := (mkF m 119 #[.val (.ref a4_0), .val (.ref a4_1), .val (.int p4_2)] [(.int p4_2), (.ref a4_1), (.int (15 : Int32)), (.ref a4_0)])) rfl (by rw [hml]; rfl) (argsL := [(.ref a4_0), (.int (15 : Int32)), (.ref a4_1), (.int p4_2)]) (rest := []) (lenOf pd_3 rfl) rfl (by show 2 * 0 + _ ≤ _; exact Nat.le_of_eq rfl) (hb hby d4_119) (fun _ _ => ⟨rfl, rfl, (by decide : 0 + 0 ≤ _), (by decide : 0 + 0 ≤ _)⟩)
  dsimp only [Pt.U, Pt.locs, Pt.cells, Pt.slots] at X106 l106 y106 z106 st106 hQ106
  rw [l106, y106, z106] at X106
  obtain ⟨cb_106, rfl, N106q, Kc106, G106_0, P106_0, P106_1⟩ := hQ106
  have Zs106 : n0 ≤ T106.heap.size := Nat.le_trans Zs99 Kc106.1
  have K106 : Keep h0 T106.heap [a4_0] := K99.trans Kc106 (allS (Or.inl (List.mem_of_getElem? (i := 0) rfl)) all0)
  have F107 := F100.keep Kc106
  have F108 := F101.keep Kc106 (ninS hne1 nin0)
  have F109 := F102.keep Kc106 (ninS hne1 nin0)
  have F110 := F103.keep Kc106 (ninS hne2 nin0)
  have F111 := own_stakeep F104 Kc106 (allS (own_nsV G99_0) all0)
  have F112 := own_stakeep F105 Kc106 (allS (own_nsV G99_0) all0)
  have N106 := Fr.app N99 N106q
  obtain ⟨_, _, ⟨T113, L113, k113, n113⟩, -, X113, ⟨Lc113, hQ113, l113, y113, z113⟩, st113⟩ := Jvm.LawKit.callS X106 hx (y := (⟨"com/example/leanweave/leanweave/QosMeasureOfColumnPinLaw", "put", "([CILjava/lang/String;C)V"⟩ : MethodName)) hown (mvT hZ (wd hw 27 rfl)) (mvT hZ (wd hw 28 rfl)) (mvT hZ (wd hw 25 rfl)) (mvT hZ (wd hw 29 rfl)) (by decide) (backOf (W := 0) (rm3 l Z a0 hw [] a4_0 (16 : Int32) a4_1 p4_2 kk nn cb_106 tl kl ls cs fm T106.heap n0 Zs106 G106_0 F107 F108 F109 F110 F111 F112 P106_0 P106_1 hb_ls hl_ls hcs hfm (by decide : ¬ ((16 : Int32) < (0 : Int32))) hp3a hp3b hne1 hne2 g_a4_0) hZ (wd hw 29 rfl) (wd hw 25 rfl) (by decide) (by decide)) (g := (mkF m 127 #[.val (.ref a4_0), .val (.ref a4_1), .val (.int p4_2)] [(.int p4_2), (.ref a4_1), (.int (16 : Int32)), (.ref a4_0)])) rfl (by rw [hml]; rfl) (argsL := [(.ref a4_0), (.int (16 : Int32)), (.ref a4_1), (.int p4_2)]) (rest := []) (lenOf pd_3 rfl) rfl (by show 2 * 0 + _ ≤ _; exact Nat.le_of_eq rfl) (hb hby d4_127) (fun _ _ => ⟨rfl, rfl, (by decide : 0 + 0 ≤ _), (by decide : 0 + 0 ≤ _)⟩)
  dsimp only [Pt.U, Pt.locs, Pt.cells, Pt.slots] at X113 l113 y113 z113 st113 hQ113
  rw [l113, y113, z113] at X113
  obtain ⟨cb_113, rfl, N113q, Kc113, G113_0, P113_0, P113_1⟩ := hQ113
  have Zs113 : n0 ≤ T113.heap.size := Nat.le_trans Zs106 Kc113.1
  have K113 : Keep h0 T113.heap [a4_0] := K106.trans Kc113 (allS (Or.inl (List.mem_of_getElem? (i := 0) rfl)) all0)
  have F114 := F107.keep Kc113
  have F115 := F108.keep Kc113 (ninS hne1 nin0)
  have F116 := F109.keep Kc113 (ninS hne1 nin0)
  have F117 := F110.keep Kc113 (ninS hne2 nin0)
  have F118 := own_stakeep F111 Kc113 (allS (own_nsV G106_0) all0)
  have F119 := own_stakeep F112 Kc113 (allS (own_nsV G106_0) all0)
  have N113 := Fr.app N106 N113q
  have k120 : ∀ t, Steps p.tables e below (T113.setTop (mkF m 130 #[.val (.ref a4_0), .val (.ref a4_1), .val (.int p4_2)] [])) t → Steps p.tables e below (s₁.setTop (entryFrame m #[(.ref a4_0), (.ref a4_1), (.int p4_2)] 3)) t := by
    intro t k
    refine pre0 t ?_
    refine XS.aloadN X0.here hx rfl (hb hby d4_0) rfl rfl ?_
    refine XS.iconst X0.here hx rfl (hb hby d4_1) ?_
    refine XS.aloadN X0.here hx rfl (hb hby d4_2) rfl rfl ?_
    refine XS.iloadN X0.here hx rfl (hb hby d4_3) rfl ?_
    refine st1 _ ?_
    refine XS.aloadN X1.here hx rfl (hb hby d4_7) rfl rfl ?_
    refine XS.iconst X1.here hx rfl (hb hby d4_8) ?_
    refine XS.aloadN X1.here hx rfl (hb hby d4_9) rfl rfl ?_
    refine XS.iloadN X1.here hx rfl (hb hby d4_10) rfl ?_
    refine st8 _ ?_
    refine XS.aloadN X8.here hx rfl (hb hby d4_14) rfl rfl ?_
    refine XS.iconst X8.here hx rfl (hb hby d4_15) ?_
    refine XS.aloadN X8.here hx rfl (hb hby d4_16) rfl rfl ?_
    refine XS.iloadN X8.here hx rfl (hb hby d4_17) rfl ?_
    refine st15 _ ?_
    refine XS.aloadN X15.here hx rfl (hb hby d4_21) rfl rfl ?_
    refine XS.iconst X15.here hx rfl (hb hby d4_22) ?_
    show Steps p.tables e below (T15.setTop (mkF m 23 #[.val (.ref a4_0), .val (.ref a4_1), .val (.int p4_2)] [(.int (3 : Int32)), (.ref a4_0)])) _
    refine XS.aloadN X15.here hx rfl (hb hby d4_23) rfl rfl ?_
    refine XS.iloadN X15.here hx rfl (hb hby d4_24) rfl ?_
    refine st22 _ ?_
    refine XS.aloadN X22.here hx rfl (hb hby d4_28) rfl rfl ?_
    refine XS.iconst X22.here hx rfl (hb hby d4_29) ?_
    refine XS.aloadN X22.here hx rfl (hb hby d4_30) rfl rfl ?_
    refine XS.iloadN X22.here hx rfl (hb hby d4_31) rfl ?_
    refine st29 _ ?_
    refine XS.aloadN X29.here hx rfl (hb hby d4_35) rfl rfl ?_
    refine XS.iconst X29.here hx rfl (hb hby d4_36) ?_
    refine XS.aloadN X29.here hx rfl (hb hby d4_37) rfl rfl ?_
    refine XS.iloadN X29.here hx rfl (hb hby d4_38) rfl ?_
    refine st36 _ ?_
    refine XS.aloadN X36.here hx rfl (hb hby d4_42) rfl rfl ?_
    refine XS.bipush X36.here hx rfl (hb hby d4_43) ?_
    refine XS.aloadN X36.here hx rfl (hb hby d4_45) rfl rfl ?_
    refine XS.iloadN X36.here hx rfl (hb hby d4_46) rfl ?_
    refine st43 _ ?_
    show Steps p.tables e below (T43.setTop (mkF m 50 #[.val (.ref a4_0), .val (.ref a4_1), .val (.int p4_2)] [])) _
    refine XS.aloadN X43.here hx rfl (hb hby d4_50) rfl rfl ?_
    refine XS.bipush X43.here hx rfl (hb hby d4_51) ?_
    refine XS.aloadN X43.here hx rfl (hb hby d4_53) rfl rfl ?_
    refine XS.iloadN X43.here hx rfl (hb hby d4_54) rfl ?_
    refine st50 _ ?_
    refine XS.aloadN X50.here hx rfl (hb hby d4_58) rfl rfl ?_
    refine XS.bipush X50.here hx rfl (hb hby d4_59) ?_
    refine XS.aloadN X50.here hx rfl (hb hby d4_61) rfl rfl ?_
    refine XS.iloadN X50.here hx rfl (hb hby d4_62) rfl ?_
    refine st57 _ ?_
    refine XS.aloadN X57.here hx rfl (hb hby d4_66) rfl rfl ?_
    refine XS.bipush X57.here hx rfl (hb hby d4_67) ?_
    refine XS.aloadN X57.here hx rfl (hb hby d4_69) rfl rfl ?_
    refine XS.iloadN X57.here hx rfl (hb hby d4_70) rfl ?_
    refine st64 _ ?_
    refine XS.aloadN X64.here hx rfl (hb hby d4_74) rfl rfl ?_
    refine XS.bipush X64.here hx rfl (hb hby d4_75) ?_
    refine XS.aloadN X64.here hx rfl (hb hby d4_77) rfl rfl ?_
    show Steps p.tables e below (T64.setTop (mkF m 78 #[.val (.ref a4_0), .val (.ref a4_1), .val (.int p4_2)] [(.ref a4_1), (.int (10 : Int32)), (.ref a4_0)])) _
    refine XS.iloadN X64.here hx rfl (hb hby d4_78) rfl ?_
    refine st71 _ ?_
    refine XS.aloadN X71.here hx rfl (hb hby d4_82) rfl rfl ?_
    refine XS.bipush X71.here hx rfl (hb hby d4_83) ?_
    refine XS.aloadN X71.here hx rfl (hb hby d4_85) rfl rfl ?_
    refine XS.iloadN X71.here hx rfl (hb hby d4_86) rfl ?_
    refine st78 _ ?_
    refine XS.aloadN X78.here hx rfl (hb hby d4_90) rfl rfl ?_
    refine XS.bipush X78.here hx rfl (hb hby d4_91) ?_
    refine XS.aloadN X78.here hx rfl (hb hby d4_93) rfl rfl ?_
    refine XS.iloadN X78.here hx rfl (hb hby d4_94) rfl ?_
    refine st85 _ ?_
    refine XS.aloadN X85.here hx rfl (hb hby d4_98) rfl rfl ?_
    refine XS.bipush X85.here hx rfl (hb hby d4_99) ?_
    refine XS.aloadN X85.here hx rfl (hb hby d4_101) rfl rfl ?_
    refine XS.iloadN X85.here hx rfl (hb hby d4_102) rfl ?_
    refine st92 _ ?_
    refine XS.aloadN X92.here hx rfl (hb hby d4_106) rfl rfl ?_
    show Steps p.tables e below (T92.setTop (mkF m 107 #[.val (.ref a4_0), .val (.ref a4_1), .val (.int p4_2)] [(.ref a4_0)])) _
    refine XS.bipush X92.here hx rfl (hb hby d4_107) ?_
    refine XS.aloadN X92.here hx rfl (hb hby d4_109) rfl rfl ?_
    refine XS.iloadN X92.here hx rfl (hb hby d4_110) rfl ?_
    refine st99 _ ?_
    refine XS.aloadN X99.here hx rfl (hb hby d4_114) rfl rfl ?_
    refine XS.bipush X99.here hx rfl (hb hby d4_115) ?_
    refine XS.aloadN X99.here hx rfl (hb hby d4_117) rfl rfl ?_
    refine XS.iloadN X99.here hx rfl (hb hby d4_118) rfl ?_
    refine st106 _ ?_
    refine XS.aloadN X106.here hx rfl (hb hby d4_122) rfl rfl ?_
    refine XS.bipush X106.here hx rfl (hb hby d4_123) ?_
    refine XS.aloadN X106.here hx rfl (hb hby d4_125) rfl rfl ?_
    refine XS.iloadN X106.here hx rfl (hb hby d4_126) rfl ?_
    refine st113 _ ?_
    exact k
  obtain ⟨fs, hr, hrun, hended, hW, hsame⟩ := X113.leave (v := none) (fun _ => rfl)
  refine ⟨_, _, k120 _ ?_, hrun, hended, _, _, rfl, ?_, ⟨_, rfl⟩, hW, hsame.mono (by decide) (by decide)⟩
  · exact X113.returnOut hx Bd.returns (hb hby d4_130) hr
  · show Q4 Z a4_0 a4_1 p4_2 kk nn ca tl kl ls cs fm h0 n0 _ T113.heap _
    exact ⟨cb_113, rfl, N113, K113, G113_0, P113_0, P113_1⟩
theorem pn_2 : plainName "com/example/leanweave/leanweave/QosMeasure" = true := by first | (simp [plainName, overriddenIn]; done) | decide +kernel
theorem d5_0 : decode prog_22_method_1_code 0 = .ok (.getstatic 13, 3) := by decide +kernel
theorem d5_3 : decode prog_22_method_1_code 3 = .ok (.invokevirtual 17, 3) := by decide +kernel
theorem d5_6 : decode prog_22_method_1_code 6 = .ok (.checkcast 18, 3) := by decide +kernel
theorem d5_9 : decode prog_22_method_1_code 9 = .ok (.areturn, 1) := by decide +kernel
theorem ef_5 (m : MethodId)  : entryFrame m #[] 0 = mkF m 0 #[] [] := by first | (simp [entryFrame, mkF, argsToLocals, Value.category]; done) | rfl
def Q5 (Z : State) (u__VALUES : Addr) (cl_u__VALUES : Cell) (u_RESPONSE_TIME : Addr) (u_THROUGHPUT : Addr) (u_COST : Addr) (h0 : Heap) (n0 : Nat) (v : Option Value) (h : Heap) (L : List Loc) : Prop := ∃ v5 : Addr, v = some (.ref v5) ∧ Fr n0 L ∧ Keep h0 h [] ∧ n0 ≤ v5 ∧ h0.size ≤ v5 ∧ Arv Z h v5 cl_u__VALUES.cls (.object "com/example/leanweave/leanweave/QosMeasure") (3 : Int32) [(.ref u_RESPONSE_TIME), (.ref u_THROUGHPUT), (.ref u_COST)] .null ∧ Exa Z h v5 "[Lcom/example/leanweave/leanweave/QosMeasure;"
set_option maxRecDepth 65536 in
set_option maxHeartbeats 40000000 in
theorem rm5 (l : Launch) (Z : State) (a0 : Array Value) (hw : ∀ d ∈ tables_1, d.before a0 Z = true) (ws : List Jvm.Cond) (u__VALUES : Addr) (cl_u__VALUES : Cell) (u_RESPONSE_TIME : Addr) (u_THROUGHPUT : Addr) (u_COST : Addr) (h0 : Heap) (n0 : Nat) (Z0 : n0 ≤ h0.size) (S__VALUES : Sta Z h0 "com/example/leanweave/leanweave/QosMeasure" "$VALUES" "[Lcom/example/leanweave/leanweave/QosMeasure;" (.ref u__VALUES)) (E_u__VALUES : Exa Z h0 u__VALUES "[Lcom/example/leanweave/leanweave/QosMeasure;") (V_u__VALUES : Arv Z h0 u__VALUES cl_u__VALUES.cls (.object "com/example/leanweave/leanweave/QosMeasure") (3 : Int32) [(.ref u_RESPONSE_TIME), (.ref u_THROUGHPUT), (.ref u_COST)] .null) :
    MetFree l (⟨"com/example/leanweave/leanweave/QosMeasure", "values", "()[Lcom/example/leanweave/leanweave/QosMeasure;"⟩ : MethodName) (head1 (Jvm.Cond.code (⟨"com/example/leanweave/leanweave/QosMeasure", "values", "()[Lcom/example/leanweave/leanweave/QosMeasure;"⟩ : MethodName) prog_22_method_1_code 0 (some (.array (.object "com/example/leanweave/leanweave/QosMeasure"))) :: ws) ({ frames := 1, cells := 1, slots := 3, locals := 14 } : Room)) (fun a U => a = #[] ∧ Z.Warmed39 U.vm ∧ U.heap = h0) (fun _ _ _ _ _ => True) (fun _ U o U' => ∃ v L, o = .returned v ∧ Q5 Z u__VALUES cl_u__VALUES u_RESPONSE_TIME u_THROUGHPUT u_COST h0 n0 v U'.heap L ∧ FrameEnd U o U' L ({ frames := 1, cells := 1, slots := 3, locals := 14 } : Room).cells ({ frames := 1, cells := 1, slots := 3, locals := 14 } : Room).slots) := by
  refine MetFree.of_bodySF (plainFor_of_name pn_2) hisR ?_
  intro p e s m args below meth c s₁ Bd hml0 hP hK
  obtain ⟨rfl, hZ, hh⟩ := hP
  have hx := Bd.exec
  have hby := Bd.bytes
  have hml : c.maxLocals = 0 := hml0
  have hown : s.vm.findClass "com/example/leanweave/leanweave/QosMeasure" = some m.cls := findClass_of_methodNamed Bd.named
  have hnm := (name_of_methodNamed Bd.named Bd.method).1
  have X0 : Stand p l e ({ frames := 1, cells := 1, slots := 3, locals := 14 } : Room) s m #[] below meth c s₁ [] 0 0 := Stand.of_body Bd
  have e0 : s₁.heap = h0 := by rw [← hh, Bd.state]; rfl
  have N0 := Fr.nil n0
  have pre0 : ∀ t, Steps p.tables e below (s₁.setTop (mkF m 0 #[] [])) t → Steps p.tables e below (s₁.setTop (entryFrame m #[] 0)) t := fun t k => castTop (ef_5 m ) k
  obtain ⟨T1, X1, e1, st1⟩ := getS2 X0 hx hZ hown (host := "") (Or.inl (wd hw 80 rfl)) Via.refl e0 S__VALUES (g := (mkF m 0 #[] [])) rfl (hb hby d5_0)
  obtain ⟨b2, g2⟩ : ∃ z, z = h0.size := ⟨_, rfl⟩
  obtain ⟨T2, h2, X2, e2, E2, V2, A2, st2⟩ := cloneH X1 hx hZ hown (wd hw 82 rfl) (wd hw 83 rfl) (wd hw 87 rfl) (wd hw 85 rfl) (wd hw 86 rfl) (wd hw 88 rfl) e1 (Arv.arh V_u__VALUES) E_u__VALUES (g := (mkF m 3 #[] [(.ref u__VALUES)])) rfl (by rw [hml]; rfl) rfl (hb hby d5_3) (by decide) (W := 0) (cap := 3) (by show 2 * 0 + _ ≤ _; exact Nat.le_of_eq rfl) (by decide) (by decide) (by decide) (by decide)
  rw [← g2] at V2 A2 st2
  have ne3 : u__VALUES ≠ b2 := Nat.ne_of_lt (Nat.lt_of_lt_of_le E_u__VALUES.lt (Nat.le_of_eq g2.symm))
  have gg2 : n0 ≤ b2 := Nat.le_trans Z0 (Nat.le_of_eq g2.symm)
  have sz2 : h0.size ≤ b2 := Nat.le_trans (Keep.refl h0 []).1 (Nat.le_of_eq g2.symm)
  have Zs2 : n0 ≤ h2.size := Nat.le_trans Z0 E2.1
  have K2 : Keep h0 h2 [] := (Keep.refl h0 []).ext E2
  have F4 := S__VALUES.ext E2
  have F5 := E_u__VALUES.ext E2
  have F6 := V_u__VALUES.ext E2
  have Va2 : Arv Z h2 b2 cl_u__VALUES.cls (.object "com/example/leanweave/leanweave/QosMeasure") (3 : Int32) [(.ref u_RESPONSE_TIME), (.ref u_THROUGHPUT), (.ref u_COST)] .null := V2
  obtain ⟨T7, X7, e7, st7⟩ := castY X2 hx hZ hown (wd hw 93 rfl) e2 (Ins.self A2) (g := (mkF m 6 #[] [(.ref b2)])) rfl rfl (hb hby d5_6)
  have k8 : ∀ t, Steps p.tables e below (T7.setTop (mkF m 9 #[] [(.ref b2)])) t → Steps p.tables e below (s₁.setTop (entryFrame m #[] 0)) t := by
    intro t k
    refine pre0 t ?_
    refine st1 _ ?_
    refine st2 _ ?_
    refine st7 _ ?_
    exact k
  obtain ⟨fs, hr, hrun, hended, hW, hsame⟩ := X7.leave (v := some (.ref b2)) (fun h => by rw [Bd.returns] at h; cases h)
  refine ⟨_, _, k8 _ ?_, hrun, hended, _, _, rfl, ?_, ⟨_, rfl⟩, hW, hsame.mono (by decide) (by decide)⟩
  · exact retOut X7 hx Bd.returns rfl (Or.inr (Or.inr (Or.inr (Or.inr ⟨rfl, rfl, rfl⟩)))) (hb hby d5_9) hr
  · show Q5 Z u__VALUES cl_u__VALUES u_RESPONSE_TIME u_THROUGHPUT u_COST h0 n0 _ T7.heap _
    rw [e7]
    exact ⟨b2, rfl, N0, K2, gg2, sz2, Va2, A2⟩
theorem pn_3 : plainName "java/util/Objects" = true := by first | (simp [plainName, overriddenIn]; done) | decide +kernel
theorem d6_0 : decode jdk_31_method_10_code 0 = .ok (.aload_n 0, 1) := by decide +kernel
theorem d6_1 : decode jdk_31_method_10_code 1 = .ok (.ifnonnull 11, 3) := by decide +kernel
theorem d6_12 : decode jdk_31_method_10_code 12 = .ok (.aload_n 0, 1) := by decide +kernel
theorem d6_13 : decode jdk_31_method_10_code 13 = .ok (.areturn, 1) := by decide +kernel
theorem ef_6 (m : MethodId) (a6_0 : Addr) : entryFrame m #[(.ref a6_0)] 1 = mkF m 0 #[.val (.ref a6_0)] [] := by first | (simp [entryFrame, mkF, argsToLocals, Value.category]; done) | rfl
def Q6 (Z : State) (a6_0 : Addr) (h0 : Heap) (n0 : Nat) (v : Option Value) (h : Heap) (L : List Loc) : Prop := v = some (.ref a6_0) ∧ Fr n0 L ∧ h = h0
set_option maxRecDepth 65536 in
set_option maxHeartbeats 40000000 in
theorem rm6 (l : Launch) (Z : State) (a0 : Array Value) (hw : ∀ d ∈ tables_1, d.before a0 Z = true) (ws : List Jvm.Cond) (a6_0 : Addr) (h0 : Heap) (n0 : Nat) (Z0 : n0 ≤ h0.size) :
    MetFree l (⟨"java/util/Objects", "requireNonNull", "(Ljava/lang/Object;)Ljava/lang/Object;"⟩ : MethodName) (head1 (Jvm.Cond.code (⟨"java/util/Objects", "requireNonNull", "(Ljava/lang/Object;)Ljava/lang/Object;"⟩ : MethodName) jdk_31_method_10_code 1 (some (.object "java/lang/Object")) :: ws) ({ frames := 0, cells := 0, slots := 0, locals := 0 } : Room)) (fun a U => a = #[(.ref a6_0)] ∧ Z.Warmed39 U.vm ∧ U.heap = h0) (fun _ _ _ _ _ => True) (fun _ U o U' => ∃ v L, o = .returned v ∧ Q6 Z a6_0 h0 n0 v U'.heap L ∧ FrameEnd U o U' L ({ frames := 0, cells := 0, slots := 0, locals := 0 } : Room).cells ({ frames := 0, cells := 0, slots := 0, locals := 0 } : Room).slots) := by
  refine MetFree.of_bodySF (plainFor_of_name pn_3) hisR ?_
  intro p e s m args below meth c s₁ Bd hml0 hP hK
  obtain ⟨rfl, hZ, hh⟩ := hP
  have hx := Bd.exec
  have hby := Bd.bytes
  have hml : c.maxLocals = 1 := hml0
  have hown : s.vm.findClass "java/util/Objects" = some m.cls := findClass_of_methodNamed Bd.named
  have hnm := (name_of_methodNamed Bd.named Bd.method).1
  have X0 : Stand p l e ({ frames := 0, cells := 0, slots := 0, locals := 0 } : Room) s m #[(.ref a6_0)] below meth c s₁ [] 0 0 := Stand.of_body Bd
  have e0 : s₁.heap = h0 := by rw [← hh, Bd.state]; rfl
  have N0 := Fr.nil n0
  have pre0 : ∀ t, Steps p.tables e below (s₁.setTop (mkF m 0 #[.val (.ref a6_0)] [])) t → Steps p.tables e below (s₁.setTop (entryFrame m #[(.ref a6_0)] 1)) t := fun t k => castTop (ef_6 m a6_0) k
  have k1 : ∀ t, Steps p.tables e below (s₁.setTop (mkF m 13 #[.val (.ref a6_0)] [(.ref a6_0)])) t → Steps p.tables e below (s₁.setTop (entryFrame m #[(.ref a6_0)] 1)) t := by
    intro t k
    refine pre0 t ?_
    refine XS.aloadN X0.here hx rfl (hb hby d6_0) rfl rfl ?_
    refine XS.ifnonnullYes X0.here hx rfl (pc0 := 1) (pc' := 12) rfl (hb hby d6_1) rfl (by decide) (by decide) ?_
    refine XS.aloadN X0.here hx rfl (hb hby d6_12) rfl rfl ?_
    exact k
  obtain ⟨fs, hr, hrun, hended, hW, hsame⟩ := X0.leave (v := some (.ref a6_0)) (fun h => by rw [Bd.returns] at h; cases h)
  refine ⟨_, _, k1 _ ?_, hrun, hended, _, _, rfl, ?_, ⟨_, rfl⟩, hW, hsame.mono (by decide) (by decide)⟩
  · exact retOut X0 hx Bd.returns rfl (Or.inr (Or.inr (Or.inr (Or.inr ⟨rfl, rfl, rfl⟩)))) (hb hby d6_13) hr
  · show Q6 Z a6_0 h0 n0 _ s₁.heap _
    rw [e0]
    exact ⟨rfl, N0, rfl⟩
theorem pn_4 : plainName "java/util/Optional" = true := by first | (simp [plainName, overriddenIn]; done) | decide +kernel
theorem d8_0 : decode jdk_32_method_2_code 0 = .ok (.aload_n 0, 1) := by decide +kernel
theorem d8_1 : decode jdk_32_method_2_code 1 = .ok (.invokespecial 7, 3) := by decide +kernel
theorem d8_4 : decode jdk_32_method_2_code 4 = .ok (.aload_n 0, 1) := by decide +kernel
theorem d8_5 : decode jdk_32_method_2_code 5 = .ok (.aload_n 1, 1) := by decide +kernel
theorem d8_6 : decode jdk_32_method_2_code 6 = .ok (.putfield 13, 3) := by decide +kernel
theorem d8_9 : decode jdk_32_method_2_code 9 = .ok (.return_, 1) := by decide +kernel
theorem ef_8 (m : MethodId) (a8_0 : Addr) (a8_1 : Addr) : entryFrame m #[(.ref a8_0), (.ref a8_1)] 2 = mkF m 0 #[.val (.ref a8_0), .val (.ref a8_1)] [] := by first | (simp [entryFrame, mkF, argsToLocals, Value.category]; done) | rfl
def Q8 (Z : State) (a8_0 : Addr) (a8_1 : Addr) (h0 : Heap) (n0 : Nat) (v : Option Value) (h : Heap) (L : List Loc) : Prop := v = none ∧ Fr n0 L ∧ Keep h0 h [a8_0] ∧ Exa Z h a8_0 "java/util/Optional" ∧ Fld Z h a8_0 "java/util/Optional" "value" "Ljava/lang/Object;" (.ref a8_1)
set_option maxRecDepth 65536 in
set_option maxHeartbeats 40000000 in
theorem rm8 (l : Launch) (Z : State) (a0 : Array Value) (hw : ∀ d ∈ tables_1, d.before a0 Z = true) (ws : List Jvm.Cond) (a8_0 : Addr) (a8_1 : Addr) (h0 : Heap) (n0 : Nat) (Z0 : n0 ≤ h0.size) (Ea : Exa Z h0 a8_0 "java/util/Optional") (Fv : Fld Z h0 a8_0 "java/util/Optional" "value" "Ljava/lang/Object;" .null) (g_a8_0 : n0 ≤ a8_0) :
    MetFree l (⟨"java/util/Optional", "<init>", "(Ljava/lang/Object;)V"⟩ : MethodName) (head1 (Jvm.Cond.code (⟨"java/util/Optional", "<init>", "(Ljava/lang/Object;)V"⟩ : MethodName) jdk_32_method_2_code 2 none :: ws) ({ frames := 1, cells := 0, slots := 0, locals := 12 } : Room)) (fun a U => a = #[(.ref a8_0), (.ref a8_1)] ∧ Z.Warmed39 U.vm ∧ U.heap = h0) (fun _ _ _ _ _ => True) (fun _ U o U' => ∃ v L, o = .returned v ∧ Q8 Z a8_0 a8_1 h0 n0 v U'.heap L ∧ FrameEnd U o U' L ({ frames := 1, cells := 0, slots := 0, locals := 12 } : Room).cells ({ frames := 1, cells := 0, slots := 0, locals := 12 } : Room).slots) := by
  refine MetFree.of_bodySF (plainFor_of_name pn_4) hisR ?_
  intro p e s m args below meth c s₁ Bd hml0 hP hK
  obtain ⟨rfl, hZ, hh⟩ := hP
  have hx := Bd.exec
  have hby := Bd.bytes
  have hml : c.maxLocals = 2 := hml0
  have hown : s.vm.findClass "java/util/Optional" = some m.cls := findClass_of_methodNamed Bd.named
  have hnm := (name_of_methodNamed Bd.named Bd.method).1
  have X0 : Stand p l e ({ frames := 1, cells := 0, slots := 0, locals := 12 } : Room) s m #[(.ref a8_0), (.ref a8_1)] below meth c s₁ [] 0 0 := Stand.of_body Bd
  have e0 : s₁.heap = h0 := by rw [← hh, Bd.state]; rfl
  have N0 := Fr.nil n0
  have pre0 : ∀ t, Steps p.tables e below (s₁.setTop (mkF m 0 #[.val (.ref a8_0), .val (.ref a8_1)] [])) t → Steps p.tables e below (s₁.setTop (entryFrame m #[(.ref a8_0), (.ref a8_1)] 2)) t := fun t k => castTop (ef_8 m a8_0 a8_1) k
  obtain ⟨T1, X1, e1, st1⟩ := initO X0 hx hZ hown (wd hw 137 rfl) (wd hw 61 rfl) (wd hw 62 rfl) e0 (g := (mkF m 1 #[.val (.ref a8_0), .val (.ref a8_1)] [(.ref a8_0)])) rfl (by rw [hml]; rfl) rfl (hb hby d8_1) (by decide) (W := 0) (by show 2 * 0 + _ ≤ _; exact Nat.le_of_eq rfl) (by decide)
  obtain ⟨T2, h2, X2, e2, W2, st2⟩ := putF X1 hx hZ hown (host := "") (Or.inl (wd hw 116 rfl)) Via.refl e1 Fv Ea (Or.inr ⟨(wd hw 117 rfl), rfl, hnm⟩) (wd hw 128 rfl) (ty := (.object "java/lang/Object")) (by decide) rfl rfl (g := (mkF m 6 #[.val (.ref a8_0), .val (.ref a8_1)] [(.ref a8_1), (.ref a8_0)])) rfl rfl (hb hby d8_6)
  have Fw2 : Fld Z h2 a8_0 "java/util/Optional" "value" "Ljava/lang/Object;" (.ref a8_1) := Fv.same W2
  have F3 := Ea.wr W2
  have N2 := Fr.snoc X2 N0 g_a8_0
  have K2 : Keep h0 h2 [a8_0] := (Keep.refl h0 [a8_0]).wr W2 (Or.inl (List.mem_of_getElem? (i := 0) rfl))
  have Zs2 : n0 ≤ h2.size := by rw [W2.size]; exact Z0
  have k5 : ∀ t, Steps p.tables e below (T2.setTop (mkF m 9 #[.val (.ref a8_0), .val (.ref a8_1)] [])) t → Steps p.tables e below (s₁.setTop (entryFrame m #[(.ref a8_0), (.ref a8_1)] 2)) t := by
    intro t k
    refine pre0 t ?_
    refine XS.aloadN X0.here hx rfl (hb hby d8_0) rfl rfl ?_
    refine st1 _ ?_
    refine XS.aloadN X1.here hx rfl (hb hby d8_4) rfl rfl ?_
    refine XS.aloadN X1.here hx rfl (hb hby d8_5) rfl rfl ?_
    refine st2 _ ?_
    exact k
  obtain ⟨fs, hr, hrun, hended, hW, hsame⟩ := X2.leave (v := none) (fun _ => rfl)
  refine ⟨_, _, k5 _ ?_, hrun, hended, _, _, rfl, ?_, ⟨_, rfl⟩, hW, hsame.mono (by decide) (by decide)⟩
  · exact X2.returnOut hx Bd.returns (hb hby d8_9) hr
  · show Q8 Z a8_0 a8_1 h0 n0 _ T2.heap _
    rw [e2]
    exact ⟨rfl, N2, K2, F3, Fw2⟩
theorem pd_4 : parseMethodDescriptor "(Ljava/lang/Object;)Ljava/lang/Object;" = some ⟨[(.object "java/lang/Object")], some (.object "java/lang/Object")⟩ := by decide +kernel
theorem pd_5 : parseMethodDescriptor "(Ljava/lang/Object;)V" = some ⟨[(.object "java/lang/Object")], none⟩ := by decide +kernel
theorem d9_0 : decode jdk_32_method_3_code 0 = .ok (.new 2, 3) := by decide +kernel
theorem d9_3 : decode jdk_32_method_3_code 3 = .ok (.dup, 1) := by decide +kernel
theorem d9_4 : decode jdk_32_method_3_code 4 = .ok (.aload_n 0, 1) := by decide +kernel
theorem d9_5 : decode jdk_32_method_3_code 5 = .ok (.invokestatic 17, 3) := by decide +kernel
theorem d9_8 : decode jdk_32_method_3_code 8 = .ok (.invokespecial 23, 3) := by decide +kernel
theorem d9_11 : decode jdk_32_method_3_code 11 = .ok (.areturn, 1) := by decide +kernel
theorem ef_9 (m : MethodId) (a9_0 : Addr) : entryFrame m #[(.ref a9_0)] 1 = mkF m 0 #[.val (.ref a9_0)] [] := by first | (simp [entryFrame, mkF, argsToLocals, Value.category]; done) | rfl
def Q9 (Z : State) (a9_0 : Addr) (h0 : Heap) (n0 : Nat) (v : Option Value) (h : Heap) (L : List Loc) : Prop := ∃ r9 : Addr, v = some (.ref r9) ∧ Fr n0 L ∧ Keep h0 h [] ∧ n0 ≤ r9 ∧ h0.size ≤ r9 ∧ Exa Z h r9 "java/util/Optional" ∧ Fld Z h r9 "java/util/Optional" "value" "Ljava/lang/Object;" (.ref a9_0)
set_option maxRecDepth 65536 in
set_option maxHeartbeats 40000000 in
theorem rm9 (l : Launch) (Z : State) (a0 : Array Value) (hw : ∀ d ∈ tables_1, d.before a0 Z = true) (ws : List Jvm.Cond) (a9_0 : Addr) (h0 : Heap) (n0 : Nat) (Z0 : n0 ≤ h0.size) :
    MetFree l (⟨"java/util/Optional", "of", "(Ljava/lang/Object;)Ljava/util/Optional;"⟩ : MethodName) (head1 (Jvm.Cond.code (⟨"java/util/Optional", "of", "(Ljava/lang/Object;)Ljava/util/Optional;"⟩ : MethodName) jdk_32_method_3_code 1 (some (.object "java/util/Optional")) :: ws) ({ frames := 2, cells := 1, slots := 1, locals := 26 } : Room)) (fun a U => a = #[(.ref a9_0)] ∧ Z.Warmed39 U.vm ∧ U.heap = h0) (fun _ _ _ _ _ => True) (fun _ U o U' => ∃ v L, o = .returned v ∧ Q9 Z a9_0 h0 n0 v U'.heap L ∧ FrameEnd U o U' L ({ frames := 2, cells := 1, slots := 1, locals := 26 } : Room).cells ({ frames := 2, cells := 1, slots := 1, locals := 26 } : Room).slots) := by
  refine MetFree.of_bodySF (plainFor_of_name pn_4) hisR ?_
  intro p e s m args below meth c s₁ Bd hml0 hP hK
  obtain ⟨rfl, hZ, hh⟩ := hP
  have hx := Bd.exec
  have hby := Bd.bytes
  have hml : c.maxLocals = 1 := hml0
  have hown : s.vm.findClass "java/util/Optional" = some m.cls := findClass_of_methodNamed Bd.named
  have hnm := (name_of_methodNamed Bd.named Bd.method).1
  have X0 : Stand p l e ({ frames := 2, cells := 1, slots := 1, locals := 26 } : Room) s m #[(.ref a9_0)] below meth c s₁ [] 0 0 := Stand.of_body Bd
  have e0 : s₁.heap = h0 := by rw [← hh, Bd.state]; rfl
  have N0 := Fr.nil n0
  have pre0 : ∀ t, Steps p.tables e below (s₁.setTop (mkF m 0 #[.val (.ref a9_0)] [])) t → Steps p.tables e below (s₁.setTop (entryFrame m #[(.ref a9_0)] 1)) t := fun t k => castTop (ef_9 m a9_0) k
  obtain ⟨b1, g1⟩ : ∃ z, z = h0.size := ⟨_, rfl⟩
  obtain ⟨T1, h1, X1, e1, E1, A1, D1, -, st1⟩ := newO X0 hx hZ hown (wd hw 127 rfl) (wd hw 128 rfl) (wd hw 108 rfl) e0 (g := (mkF m 0 #[.val (.ref a9_0)] [])) rfl (hb hby d9_0) (by decide) (by decide)
  rw [← g1] at A1 D1 st1
  have gg1 : n0 ≤ b1 := Nat.le_trans Z0 (Nat.le_of_eq g1.symm)
  have sz1 : h0.size ≤ b1 := Nat.le_trans (Keep.refl h0 []).1 (Nat.le_of_eq g1.symm)
  have Zs1 : n0 ≤ h1.size := Nat.le_trans Z0 E1.1
  have K1 : Keep h0 h1 [] := (Keep.refl h0 []).ext E1
  have F2 : Fld Z h1 b1 "java/util/Optional" "value" "Ljava/lang/Object;" .null := D1 (Or.inr (wd hw 117 rfl)) (ty := (.object "java/lang/Object")) (by decide)
  obtain ⟨_, _, ⟨T3, L3, k3, n3⟩, -, X3, ⟨Lc3, hQ3, l3, y3, z3⟩, st3⟩ := Jvm.LawKit.callS X1 hx (y := (⟨"java/util/Objects", "requireNonNull", "(Ljava/lang/Object;)Ljava/lang/Object;"⟩ : MethodName)) hown (mvT hZ (wd hw 129 rfl)) (mvT hZ (wd hw 130 rfl)) (mvT hZ (wd hw 131 rfl)) (mvT hZ (wd hw 132 rfl)) (by decide) (backOf (W := 2) (rm6 l Z a0 hw [] a9_0 h1 n0 Zs1 ) hZ (wd hw 132 rfl) (wd hw 131 rfl) (by decide) (by decide)) (g := (mkF m 5 #[.val (.ref a9_0)] [(.ref a9_0), (.ref b1), (.ref b1)])) rfl (by rw [hml]; rfl) (argsL := [(.ref a9_0)]) (rest := [(.ref b1), (.ref b1)]) (lenOf pd_4 rfl) rfl (by show 2 * 0 + _ ≤ _; exact Nat.le_of_eq rfl) (hb hby d9_5) (fun _ _ => ⟨rfl, e1, (by decide : 1 + 0 ≤ _), (by decide : 1 + 0 ≤ _)⟩)
  dsimp only [Pt.U, Pt.locs, Pt.cells, Pt.slots] at X3 l3 y3 z3 st3 hQ3
  rw [l3, y3, z3] at X3
  obtain ⟨rfl, N3q, eh3⟩ := hQ3
  have N3 := Fr.app N0 N3q
  obtain ⟨_, _, ⟨T4, L4, k4, n4⟩, -, X4, ⟨Lc4, hQ4, l4, y4, z4⟩, st4⟩ := X3.specialBack hx (y := (⟨"java/util/Optional", "<init>", "(Ljava/lang/Object;)V"⟩ : MethodName)) rfl hown (mvT hZ (wd hw 133 rfl)) (mvT hZ (wd hw 134 rfl)) (mvT hZ (wd hw 136 rfl)) (by decide) (backOf (W := 1) (rm8 l Z a0 hw [] b1 a9_0 h1 n0 Zs1 A1 F2 gg1) hZ (wd hw 136 rfl) (wd hw 108 rfl) (by decide) (by decide)) (g := (mkF m 8 #[.val (.ref a9_0)] [(.ref a9_0), (.ref b1), (.ref b1)])) rfl (by rw [hml]; rfl) (Steps.refl _) (a := b1) (argsL := [(.ref a9_0)]) (rest := [(.ref b1)]) (lenOf pd_5 rfl) rfl (by show 2 * 0 + _ ≤ _; exact Nat.le_of_eq rfl) (hb hby d9_8) (fun _ _ => ⟨rfl, eh3, (by decide : 1 + 0 ≤ _), (by decide : 1 + 0 ≤ _)⟩)
  dsimp only [Pt.U, Pt.locs, Pt.cells, Pt.slots] at X4 l4 y4 z4 st4 hQ4
  rw [l4, y4, z4] at X4
  obtain ⟨rfl, N4q, Kc4, G4_0, G4_1⟩ := hQ4
  have Zs4 : n0 ≤ T4.heap.size := Nat.le_trans Zs1 Kc4.1
  have K4 : Keep h0 T4.heap [] := K1.trans Kc4 (allS (Or.inr sz1) all0)
  have N4 := Fr.app N3 N4q
  have k5 : ∀ t, Steps p.tables e below (T4.setTop (mkF m 11 #[.val (.ref a9_0)] [(.ref b1)])) t → Steps p.tables e below (s₁.setTop (entryFrame m #[(.ref a9_0)] 1)) t := by
    intro t k
    refine pre0 t ?_
    refine st1 _ ?_
    refine XS.dup X1.here hx rfl (hb hby d9_3) rfl rfl ?_
    refine XS.aloadN X1.here hx rfl (hb hby d9_4) rfl rfl ?_
    refine st3 _ ?_
    refine st4.trans ?_
    exact k
  obtain ⟨fs, hr, hrun, hended, hW, hsame⟩ := X4.leave (v := some (.ref b1)) (fun h => by rw [Bd.returns] at h; cases h)
  refine ⟨_, _, k5 _ ?_, hrun, hended, _, _, rfl, ?_, ⟨_, rfl⟩, hW, hsame.mono (by decide) (by decide)⟩
  · exact retOut X4 hx Bd.returns rfl (Or.inr (Or.inr (Or.inr (Or.inr ⟨rfl, rfl, rfl⟩)))) (hb hby d9_11) hr
  · show Q9 Z a9_0 h0 n0 _ T4.heap _
    exact ⟨b1, rfl, N4, K4, gg1, sz1, G4_0, G4_1⟩
theorem d10_0 : decode jdk_32_method_1_code 0 = .ok (.getstatic 1, 3) := by decide +kernel
theorem d10_3 : decode jdk_32_method_1_code 3 = .ok (.astore_n 0, 1) := by decide +kernel
theorem d10_4 : decode jdk_32_method_1_code 4 = .ok (.aload_n 0, 1) := by decide +kernel
theorem d10_5 : decode jdk_32_method_1_code 5 = .ok (.areturn, 1) := by decide +kernel
theorem ef_10 (m : MethodId)  : entryFrame m #[] 1 = mkF m 0 #[.unset] [] := by first | (simp [entryFrame, mkF, argsToLocals, Value.category]; done) | rfl
def Q10 (Z : State) (u_EMPTY : Addr) (h0 : Heap) (n0 : Nat) (v : Option Value) (h : Heap) (L : List Loc) : Prop := v = some (.ref u_EMPTY) ∧ Fr n0 L ∧ h = h0
set_option maxRecDepth 65536 in
set_option maxHeartbeats 40000000 in
theorem rm10 (l : Launch) (Z : State) (a0 : Array Value) (hw : ∀ d ∈ tables_1, d.before a0 Z = true) (ws : List Jvm.Cond) (u_EMPTY : Addr) (h0 : Heap) (n0 : Nat) (Z0 : n0 ≤ h0.size) (S_EMPTY : Sta Z h0 "java/util/Optional" "EMPTY" "Ljava/util/Optional;" (.ref u_EMPTY)) :
    MetFree l (⟨"java/util/Optional", "empty", "()Ljava/util/Optional;"⟩ : MethodName) (head1 (Jvm.Cond.code (⟨"java/util/Optional", "empty", "()Ljava/util/Optional;"⟩ : MethodName) jdk_32_method_1_code 1 (some (.object "java/util/Optional")) :: ws) ({ frames := 0, cells := 0, slots := 0, locals := 0 } : Room)) (fun a U => a = #[] ∧ Z.Warmed39 U.vm ∧ U.heap = h0) (fun _ _ _ _ _ => True) (fun _ U o U' => ∃ v L, o = .returned v ∧ Q10 Z u_EMPTY h0 n0 v U'.heap L ∧ FrameEnd U o U' L ({ frames := 0, cells := 0, slots := 0, locals := 0 } : Room).cells ({ frames := 0, cells := 0, slots := 0, locals := 0 } : Room).slots) := by
  refine MetFree.of_bodySF (plainFor_of_name pn_4) hisR ?_
  intro p e s m args below meth c s₁ Bd hml0 hP hK
  obtain ⟨rfl, hZ, hh⟩ := hP
  have hx := Bd.exec
  have hby := Bd.bytes
  have hml : c.maxLocals = 1 := hml0
  have hown : s.vm.findClass "java/util/Optional" = some m.cls := findClass_of_methodNamed Bd.named
  have hnm := (name_of_methodNamed Bd.named Bd.method).1
  have X0 : Stand p l e ({ frames := 0, cells := 0, slots := 0, locals := 0 } : Room) s m #[] below meth c s₁ [] 0 0 := Stand.of_body Bd
  have e0 : s₁.heap = h0 := by rw [← hh, Bd.state]; rfl
  have N0 := Fr.nil n0
  have pre0 : ∀ t, Steps p.tables e below (s₁.setTop (mkF m 0 #[.unset] [])) t → Steps p.tables e below (s₁.setTop (entryFrame m #[] 1)) t := fun t k => castTop (ef_10 m ) k
  obtain ⟨T1, X1, e1, st1⟩ := getS2 X0 hx hZ hown (host := "") (Or.inl (wd hw 110 rfl)) Via.refl e0 S_EMPTY (g := (mkF m 0 #[.unset] [])) rfl (hb hby d10_0)
  have k2 : ∀ t, Steps p.tables e below (T1.setTop (mkF m 5 #[.val (.ref u_EMPTY)] [(.ref u_EMPTY)])) t → Steps p.tables e below (s₁.setTop (entryFrame m #[] 1)) t := by
    intro t k
    refine pre0 t ?_
    refine st1 _ ?_
    refine XS.astoreN X1.here hx rfl (hb hby d10_3) rfl rfl (l' := #[.val (.ref u_EMPTY)]) rfl ?_
    refine XS.aloadN X1.here hx rfl (hb hby d10_4) rfl rfl ?_
    exact k
  obtain ⟨fs, hr, hrun, hended, hW, hsame⟩ := X1.leave (v := some (.ref u_EMPTY)) (fun h => by rw [Bd.returns] at h; cases h)
  refine ⟨_, _, k2 _ ?_, hrun, hended, _, _, rfl, ?_, ⟨_, rfl⟩, hW, hsame.mono (by decide) (by decide)⟩
  · exact retOut X1 hx Bd.returns rfl (Or.inr (Or.inr (Or.inr (Or.inr ⟨rfl, rfl, rfl⟩)))) (hb hby d10_5) hr
  · show Q10 Z u_EMPTY h0 n0 _ T1.heap _
    rw [e1]
    exact ⟨rfl, N0, rfl⟩
theorem d11_0 : decode jdk_32_method_15_code 0 = .ok (.aload_n 0, 1) := by decide +kernel
theorem d11_1 : decode jdk_32_method_15_code 1 = .ok (.getfield 13, 3) := by decide +kernel
theorem d11_4 : decode jdk_32_method_15_code 4 = .ok (.ifnull 10, 3) := by decide +kernel
theorem d11_14 : decode jdk_32_method_15_code 14 = .ok (.aload_n 1, 1) := by decide +kernel
theorem d11_15 : decode jdk_32_method_15_code 15 = .ok (.areturn, 1) := by decide +kernel
theorem ef_11 (m : MethodId) (a11_0 : Addr) : entryFrame m #[(.ref a11_0), .null] 2 = mkF m 0 #[.val (.ref a11_0), .val .null] [] := by first | (simp [entryFrame, mkF, argsToLocals, Value.category]; done) | rfl
def Q11 (Z : State) (a11_0 : Addr) (h0 : Heap) (n0 : Nat) (v : Option Value) (h : Heap) (L : List Loc) : Prop := v = some .null ∧ Fr n0 L ∧ h = h0
set_option maxRecDepth 65536 in
set_option maxHeartbeats 40000000 in
theorem rm11 (l : Launch) (Z : State) (a0 : Array Value) (hw : ∀ d ∈ tables_1, d.before a0 Z = true) (ws : List Jvm.Cond) (a11_0 : Addr) (h0 : Heap) (n0 : Nat) (Z0 : n0 ≤ h0.size) (Fv : Fld Z h0 a11_0 "java/util/Optional" "value" "Ljava/lang/Object;" .null) :
    MetFree l (⟨"java/util/Optional", "orElse", "(Ljava/lang/Object;)Ljava/lang/Object;"⟩ : MethodName) (head1 (Jvm.Cond.code (⟨"java/util/Optional", "orElse", "(Ljava/lang/Object;)Ljava/lang/Object;"⟩ : MethodName) jdk_32_method_15_code 2 (some (.object "java/lang/Object")) :: ws) ({ frames := 0, cells := 0, slots := 0, locals := 0 } : Room)) (fun a U => a = #[(.ref a11_0), .null] ∧ Z.Warmed39 U.vm ∧ U.heap = h0) (fun _ _ _ _ _ => True) (fun _ U o U' => ∃ v L, o = .returned v ∧ Q11 Z a11_0 h0 n0 v U'.heap L ∧ FrameEnd U o U' L ({ frames := 0, cells := 0, slots := 0, locals := 0 } : Room).cells ({ frames := 0, cells := 0, slots := 0, locals := 0 } : Room).slots) := by
  refine MetFree.of_bodySF (plainFor_of_name pn_4) hisR ?_
  intro p e s m args below meth c s₁ Bd hml0 hP hK
  obtain ⟨rfl, hZ, hh⟩ := hP
  have hx := Bd.exec
  have hby := Bd.bytes
  have hml : c.maxLocals = 2 := hml0
  have hown : s.vm.findClass "java/util/Optional" = some m.cls := findClass_of_methodNamed Bd.named
  have hnm := (name_of_methodNamed Bd.named Bd.method).1
  have X0 : Stand p l e ({ frames := 0, cells := 0, slots := 0, locals := 0 } : Room) s m #[(.ref a11_0), .null] below meth c s₁ [] 0 0 := Stand.of_body Bd
  have e0 : s₁.heap = h0 := by rw [← hh, Bd.state]; rfl
  have N0 := Fr.nil n0
  have pre0 : ∀ t, Steps p.tables e below (s₁.setTop (mkF m 0 #[.val (.ref a11_0), .val .null] [])) t → Steps p.tables e below (s₁.setTop (entryFrame m #[(.ref a11_0), .null] 2)) t := fun t k => castTop (ef_11 m a11_0) k
  obtain ⟨T1, X1, e1, st1⟩ := getF X0 hx hZ hown (host := "") (Or.inl (wd hw 116 rfl)) Via.refl e0 Fv (g := (mkF m 1 #[.val (.ref a11_0), .val .null] [(.ref a11_0)])) rfl rfl (hb hby d11_1)
  have k2 : ∀ t, Steps p.tables e below (T1.setTop (mkF m 15 #[.val (.ref a11_0), .val .null] [.null])) t → Steps p.tables e below (s₁.setTop (entryFrame m #[(.ref a11_0), .null] 2)) t := by
    intro t k
    refine pre0 t ?_
    refine XS.aloadN X0.here hx rfl (hb hby d11_0) rfl rfl ?_
    refine st1 _ ?_
    refine XS.ifnullYes X1.here hx rfl (pc0 := 4) (pc' := 14) rfl (hb hby d11_4) rfl (by decide) (by decide) ?_
    refine XS.aloadN X1.here hx rfl (hb hby d11_14) rfl rfl ?_
    exact k
  obtain ⟨fs, hr, hrun, hended, hW, hsame⟩ := X1.leave (v := some .null) (fun h => by rw [Bd.returns] at h; cases h)
  refine ⟨_, _, k2 _ ?_, hrun, hended, _, _, rfl, ?_, ⟨_, rfl⟩, hW, hsame.mono (by decide) (by decide)⟩
  · exact retOut X1 hx Bd.returns rfl (Or.inr (Or.inr (Or.inr (Or.inr ⟨rfl, rfl, rfl⟩)))) (hb hby d11_15) hr
  · show Q11 Z a11_0 h0 n0 _ T1.heap _
    rw [e1]
    exact ⟨rfl, N0, rfl⟩
theorem d12_0 : decode jdk_32_method_15_code 0 = .ok (.aload_n 0, 1) := by decide +kernel
theorem d12_1 : decode jdk_32_method_15_code 1 = .ok (.getfield 13, 3) := by decide +kernel
theorem d12_4 : decode jdk_32_method_15_code 4 = .ok (.ifnull 10, 3) := by decide +kernel
theorem d12_7 : decode jdk_32_method_15_code 7 = .ok (.aload_n 0, 1) := by decide +kernel
theorem d12_8 : decode jdk_32_method_15_code 8 = .ok (.getfield 13, 3) := by decide +kernel
theorem d12_11 : decode jdk_32_method_15_code 11 = .ok (.goto 4, 3) := by decide +kernel
theorem d12_15 : decode jdk_32_method_15_code 15 = .ok (.areturn, 1) := by decide +kernel
theorem ef_12 (m : MethodId) (a12_0 : Addr) : entryFrame m #[(.ref a12_0), .null] 2 = mkF m 0 #[.val (.ref a12_0), .val .null] [] := by first | (simp [entryFrame, mkF, argsToLocals, Value.category]; done) | rfl
def Q12 (Z : State) (a12_0 : Addr) (uv : Addr) (h0 : Heap) (n0 : Nat) (v : Option Value) (h : Heap) (L : List Loc) : Prop := v = some (.ref uv) ∧ Fr n0 L ∧ h = h0
set_option maxRecDepth 65536 in
set_option maxHeartbeats 40000000 in
theorem rm12 (l : Launch) (Z : State) (a0 : Array Value) (hw : ∀ d ∈ tables_1, d.before a0 Z = true) (ws : List Jvm.Cond) (a12_0 : Addr) (uv : Addr) (h0 : Heap) (n0 : Nat) (Z0 : n0 ≤ h0.size) (Fv : Fld Z h0 a12_0 "java/util/Optional" "value" "Ljava/lang/Object;" (.ref uv)) :
    MetFree l (⟨"java/util/Optional", "orElse", "(Ljava/lang/Object;)Ljava/lang/Object;"⟩ : MethodName) (head1 (Jvm.Cond.code (⟨"java/util/Optional", "orElse", "(Ljava/lang/Object;)Ljava/lang/Object;"⟩ : MethodName) jdk_32_method_15_code 2 (some (.object "java/lang/Object")) :: ws) ({ frames := 0, cells := 0, slots := 0, locals := 0 } : Room)) (fun a U => a = #[(.ref a12_0), .null] ∧ Z.Warmed39 U.vm ∧ U.heap = h0) (fun _ _ _ _ _ => True) (fun _ U o U' => ∃ v L, o = .returned v ∧ Q12 Z a12_0 uv h0 n0 v U'.heap L ∧ FrameEnd U o U' L ({ frames := 0, cells := 0, slots := 0, locals := 0 } : Room).cells ({ frames := 0, cells := 0, slots := 0, locals := 0 } : Room).slots) := by
  refine MetFree.of_bodySF (plainFor_of_name pn_4) hisR ?_
  intro p e s m args below meth c s₁ Bd hml0 hP hK
  obtain ⟨rfl, hZ, hh⟩ := hP
  have hx := Bd.exec
  have hby := Bd.bytes
  have hml : c.maxLocals = 2 := hml0
  have hown : s.vm.findClass "java/util/Optional" = some m.cls := findClass_of_methodNamed Bd.named
  have hnm := (name_of_methodNamed Bd.named Bd.method).1
  have X0 : Stand p l e ({ frames := 0, cells := 0, slots := 0, locals := 0 } : Room) s m #[(.ref a12_0), .null] below meth c s₁ [] 0 0 := Stand.of_body Bd
  have e0 : s₁.heap = h0 := by rw [← hh, Bd.state]; rfl
  have N0 := Fr.nil n0
  have pre0 : ∀ t, Steps p.tables e below (s₁.setTop (mkF m 0 #[.val (.ref a12_0), .val .null] [])) t → Steps p.tables e below (s₁.setTop (entryFrame m #[(.ref a12_0), .null] 2)) t := fun t k => castTop (ef_12 m a12_0) k
  obtain ⟨T1, X1, e1, st1⟩ := getF X0 hx hZ hown (host := "") (Or.inl (wd hw 116 rfl)) Via.refl e0 Fv (g := (mkF m 1 #[.val (.ref a12_0), .val .null] [(.ref a12_0)])) rfl rfl (hb hby d12_1)
  obtain ⟨T2, X2, e2, st2⟩ := getF X1 hx hZ hown (host := "") (Or.inl (wd hw 116 rfl)) Via.refl e1 Fv (g := (mkF m 8 #[.val (.ref a12_0), .val .null] [(.ref a12_0)])) rfl rfl (hb hby d12_8)
  have k3 : ∀ t, Steps p.tables e below (T2.setTop (mkF m 15 #[.val (.ref a12_0), .val .null] [(.ref uv)])) t → Steps p.tables e below (s₁.setTop (entryFrame m #[(.ref a12_0), .null] 2)) t := by
    intro t k
    refine pre0 t ?_
    refine XS.aloadN X0.here hx rfl (hb hby d12_0) rfl rfl ?_
    refine st1 _ ?_
    refine XS.ifnullNo X1.here hx rfl (hb hby d12_4) rfl ?_
    refine XS.aloadN X1.here hx rfl (hb hby d12_7) rfl rfl ?_
    refine st2 _ ?_
    refine XS.goto X2.here hx rfl (pc0 := 11) (pc' := 15) rfl (hb hby d12_11) (by decide) (by decide) ?_
    exact k
  obtain ⟨fs, hr, hrun, hended, hW, hsame⟩ := X2.leave (v := some (.ref uv)) (fun h => by rw [Bd.returns] at h; cases h)
  refine ⟨_, _, k3 _ ?_, hrun, hended, _, _, rfl, ?_, ⟨_, rfl⟩, hW, hsame.mono (by decide) (by decide)⟩
  · exact retOut X2 hx Bd.returns rfl (Or.inr (Or.inr (Or.inr (Or.inr ⟨rfl, rfl, rfl⟩)))) (hb hby d12_15) hr
  · show Q12 Z a12_0 uv h0 n0 _ T2.heap _
    rw [e2]
    exact ⟨rfl, N0, rfl⟩
theorem d13_0 : decode jdk_42_method_66_code 0 = .ok (.aload_n 0, 1) := by decide +kernel
theorem d13_1 : decode jdk_42_method_66_code 1 = .ok (.aload_n 1, 1) := by decide +kernel
theorem d13_2 : decode jdk_42_method_66_code 2 = .ok (.if_acmp .ne 5, 3) := by decide +kernel
theorem d13_7 : decode jdk_42_method_66_code 7 = .ok (.aload_n 1, 1) := by decide +kernel
theorem d13_8 : decode jdk_42_method_66_code 8 = .ok (.instanceof 10, 3) := by decide +kernel
theorem d13_11 : decode jdk_42_method_66_code 11 = .ok (.ifCond .eq 43, 3) := by decide +kernel
theorem d13_54 : decode jdk_42_method_66_code 54 = .ok (.iconst 0, 1) := by decide +kernel
theorem d13_55 : decode jdk_42_method_66_code 55 = .ok (.ireturn, 1) := by decide +kernel
theorem ef_13 (m : MethodId) (a13_0 : Addr) : entryFrame m #[(.ref a13_0), .null] 3 = mkF m 0 #[.val (.ref a13_0), .val .null, .unset] [] := by first | (simp [entryFrame, mkF, argsToLocals, Value.category]; done) | rfl
def Q13 (Z : State) (a13_0 : Addr) (h0 : Heap) (n0 : Nat) (v : Option Value) (h : Heap) (L : List Loc) : Prop := v = some (.int (0 : Int32)) ∧ Fr n0 L ∧ h = h0
set_option maxRecDepth 65536 in
set_option maxHeartbeats 40000000 in
theorem rm13 (l : Launch) (Z : State) (a0 : Array Value) (hw : ∀ d ∈ tables_1, d.before a0 Z = true) (ws : List Jvm.Cond) (a13_0 : Addr) (h0 : Heap) (n0 : Nat) (Z0 : n0 ≤ h0.size) :
    MetFree l (⟨"java/lang/String", "equals", "(Ljava/lang/Object;)Z"⟩ : MethodName) (head1 (Jvm.Cond.code (⟨"java/lang/String", "equals", "(Ljava/lang/Object;)Z"⟩ : MethodName) jdk_42_method_66_code 3 (some .boolean) :: ws) ({ frames := 0, cells := 0, slots := 0, locals := 0 } : Room)) (fun a U => a = #[(.ref a13_0), .null] ∧ Z.Warmed39 U.vm ∧ U.heap = h0) (fun _ _ _ _ _ => True) (fun _ U o U' => ∃ v L, o = .returned v ∧ Q13 Z a13_0 h0 n0 v U'.heap L ∧ FrameEnd U o U' L ({ frames := 0, cells := 0, slots := 0, locals := 0 } : Room).cells ({ frames := 0, cells := 0, slots := 0, locals := 0 } : Room).slots) := by
  refine MetFree.of_bodySF (plainFor_of_name pn_0) hisR ?_
  intro p e s m args below meth c s₁ Bd hml0 hP hK
  obtain ⟨rfl, hZ, hh⟩ := hP
  have hx := Bd.exec
  have hby := Bd.bytes
  have hml : c.maxLocals = 3 := hml0
  have hown : s.vm.findClass "java/lang/String" = some m.cls := findClass_of_methodNamed Bd.named
  have hnm := (name_of_methodNamed Bd.named Bd.method).1
  have X0 : Stand p l e ({ frames := 0, cells := 0, slots := 0, locals := 0 } : Room) s m #[(.ref a13_0), .null] below meth c s₁ [] 0 0 := Stand.of_body Bd
  have e0 : s₁.heap = h0 := by rw [← hh, Bd.state]; rfl
  have N0 := Fr.nil n0
  have pre0 : ∀ t, Steps p.tables e below (s₁.setTop (mkF m 0 #[.val (.ref a13_0), .val .null, .unset] [])) t → Steps p.tables e below (s₁.setTop (entryFrame m #[(.ref a13_0), .null] 3)) t := fun t k => castTop (ef_13 m a13_0) k
  have k1 : ∀ t, Steps p.tables e below (s₁.setTop (mkF m 55 #[.val (.ref a13_0), .val .null, .unset] [(.int (0 : Int32))])) t → Steps p.tables e below (s₁.setTop (entryFrame m #[(.ref a13_0), .null] 3)) t := by
    intro t k
    refine pre0 t ?_
    refine XS.aloadN X0.here hx rfl (hb hby d13_0) rfl rfl ?_
    refine XS.aloadN X0.here hx rfl (hb hby d13_1) rfl rfl ?_
    refine Jvm.RoadKit.acmp (g := (mkF m 2 #[.val (.ref a13_0), .val .null, .unset] [.null, (.ref a13_0)])) X0 hx rfl rfl rfl (pc0 := 2) (pc' := 7) (same := false) rfl (hb hby d13_2) rfl (decide_eq_false nofun) (by decide) (by decide) ?_
    refine XS.aloadN X0.here hx rfl (hb hby d13_7) rfl rfl ?_
    refine X0.instanceofNull hx (g := (mkF m 8 #[.val (.ref a13_0), .val .null, .unset] [.null])) rfl rfl (hb hby d13_8) _ ?_
    refine XS.ifYes X0.here hx rfl (pc0 := 11) (pc' := 54) rfl (hb hby d13_11) rfl ((if0 _ _).trans (teq (by decide : (0 : Int32) = (0 : Int32))).1) (by decide) (by decide) ?_
    refine XS.iconst X0.here hx rfl (hb hby d13_54) ?_
    exact k
  obtain ⟨fs, hr, hrun, hended, hW, hsame⟩ := X0.leave (v := some (.int (0 : Int32))) (fun h => by rw [Bd.returns] at h; cases h)
  refine ⟨_, _, k1 _ ?_, hrun, hended, _, _, rfl, ?_, ⟨_, rfl⟩, hW, hsame.mono (by decide) (by decide)⟩
  · exact retN X0 hx (t := .boolean) Bd.returns (by simp) (hb hby d13_55) hr
  · show Q13 Z a13_0 h0 n0 _ s₁.heap _
    rw [e0]
    exact ⟨rfl, N0, rfl⟩
theorem pd_6 : parseMethodDescriptor "()[Lcom/example/leanweave/leanweave/QosMeasure;" = some ⟨[], some (.array (.object "com/example/leanweave/leanweave/QosMeasure"))⟩ := by decide +kernel
theorem pd_7 : parseMethodDescriptor "(Ljava/lang/Object;)Z" = some ⟨[(.object "java/lang/Object")], some .boolean⟩ := by decide +kernel
theorem pd_8 : parseMethodDescriptor "(Ljava/lang/Object;)Ljava/util/Optional;" = some ⟨[(.object "java/lang/Object")], some (.object "java/util/Optional")⟩ := by decide +kernel
theorem d14_0 : decode prog_22_method_5_code 0 = .ok (.invokestatic 36, 3) := by decide +kernel
theorem d14_3 : decode prog_22_method_5_code 3 = .ok (.astore_n 1, 1) := by decide +kernel
theorem d14_4 : decode prog_22_method_5_code 4 = .ok (.aload_n 1, 1) := by decide +kernel
theorem d14_5 : decode prog_22_method_5_code 5 = .ok (.arraylength, 1) := by decide +kernel
theorem d14_6 : decode prog_22_method_5_code 6 = .ok (.istore_n 2, 1) := by decide +kernel
theorem d14_7 : decode prog_22_method_5_code 7 = .ok (.iconst 0, 1) := by decide +kernel
theorem d14_8 : decode prog_22_method_5_code 8 = .ok (.istore_n 3, 1) := by decide +kernel
theorem d14_9 : decode prog_22_method_5_code 9 = .ok (.iload_n 3, 1) := by decide +kernel
theorem d14_10 : decode prog_22_method_5_code 10 = .ok (.iload_n 2, 1) := by decide +kernel
theorem d14_11 : decode prog_22_method_5_code 11 = .ok (.if_icmp .ge 32, 3) := by decide +kernel
theorem d14_14 : decode prog_22_method_5_code 14 = .ok (.aload_n 1, 1) := by decide +kernel
theorem d14_15 : decode prog_22_method_5_code 15 = .ok (.iload_n 3, 1) := by decide +kernel
theorem d14_16 : decode prog_22_method_5_code 16 = .ok (.aaload, 1) := by decide +kernel
theorem d14_17 : decode prog_22_method_5_code 17 = .ok (.astore 4, 2) := by decide +kernel
theorem d14_19 : decode prog_22_method_5_code 19 = .ok (.aload 4, 2) := by decide +kernel
theorem d14_21 : decode prog_22_method_5_code 21 = .ok (.getfield 32, 3) := by decide +kernel
theorem d14_24 : decode prog_22_method_5_code 24 = .ok (.aload_n 0, 1) := by decide +kernel
theorem d14_25 : decode prog_22_method_5_code 25 = .ok (.invokevirtual 40, 3) := by decide +kernel
theorem d14_28 : decode prog_22_method_5_code 28 = .ok (.ifCond .eq 9, 3) := by decide +kernel
theorem d14_31 : decode prog_22_method_5_code 31 = .ok (.aload 4, 2) := by decide +kernel
theorem d14_33 : decode prog_22_method_5_code 33 = .ok (.invokestatic 46, 3) := by decide +kernel
theorem d14_36 : decode prog_22_method_5_code 36 = .ok (.areturn, 1) := by decide +kernel
theorem ef_14 (m : MethodId) (a14_0 : Addr) : entryFrame m #[(.ref a14_0)] 5 = mkF m 0 #[.val (.ref a14_0), .unset, .unset, .unset, .unset] [] := by first | (simp [entryFrame, mkF, argsToLocals, Value.category]; done) | rfl
def Q14 (Z : State) (a14_0 : Addr) (u_EMPTY : Addr) (u__VALUES : Addr) (cl_u__VALUES : Cell) (u_RESPONSE_TIME : Addr) (u_THROUGHPUT : Addr) (u_COST : Addr) (u_RESPONSE_TIME_column : Addr) (u_RESPONSE_TIME_column_value : Addr) (cl_u_RESPONSE_TIME_column_value : Cell) (u_THROUGHPUT_column : Addr) (u_THROUGHPUT_column_value : Addr) (cl_u_THROUGHPUT_column_value : Cell) (u_COST_column : Addr) (u_COST_column_value : Addr) (cl_u_COST_column_value : Cell) (cs : Int32) (ta : Addr) (kt : ClassId) (nz : Int32) (la : List Int32) (h0 : Heap) (n0 : Nat) (v : Option Value) (h : Heap) (L : List Loc) : Prop := ∃ ro : Addr, v = some (.ref ro) ∧ Fr n0 L ∧ Keep h0 h [] ∧ n0 ≤ ro ∧ h0.size ≤ ro ∧ Exa Z h ro "java/util/Optional" ∧ Fld Z h ro "java/util/Optional" "value" "Ljava/lang/Object;" (.ref u_RESPONSE_TIME)
set_option maxRecDepth 65536 in
set_option maxHeartbeats 40000000 in
theorem rm14 (l : Launch) (Z : State) (a0 : Array Value) (hw : ∀ d ∈ tables_1, d.before a0 Z = true) (ws : List Jvm.Cond) (a14_0 : Addr) (u_EMPTY : Addr) (u__VALUES : Addr) (cl_u__VALUES : Cell) (u_RESPONSE_TIME : Addr) (u_THROUGHPUT : Addr) (u_COST : Addr) (u_RESPONSE_TIME_column : Addr) (u_RESPONSE_TIME_column_value : Addr) (cl_u_RESPONSE_TIME_column_value : Cell) (u_THROUGHPUT_column : Addr) (u_THROUGHPUT_column_value : Addr) (cl_u_THROUGHPUT_column_value : Cell) (u_COST_column : Addr) (u_COST_column_value : Addr) (cl_u_COST_column_value : Cell) (cs : Int32) (ta : Addr) (kt : ClassId) (nz : Int32) (la : List Int32) (h0 : Heap) (n0 : Nat) (Z0 : n0 ≤ h0.size) (S_EMPTY : Sta Z h0 "java/util/Optional" "EMPTY" "Ljava/util/Optional;" (.ref u_EMPTY)) (E_u_EMPTY : Exa Z h0 u_EMPTY "java/util/Optional") (F_u_EMPTY_value : Fld Z h0 u_EMPTY "java/util/Optional" "value" "Ljava/lang/Object;" .null) (S__VALUES : Sta Z h0 "com/example/leanweave/leanweave/QosMeasure" "$VALUES" "[Lcom/example/leanweave/leanweave/QosMeasure;" (.ref u__VALUES)) (E_u__VALUES : Exa Z h0 u__VALUES "[Lcom/example/leanweave/leanweave/QosMeasure;") (S_RESPONSE_TIME : Sta Z h0 "com/example/leanweave/leanweave/QosMeasure" "RESPONSE_TIME" "Lcom/example/leanweave/leanweave/QosMeasure;" (.ref u_RESPONSE_TIME)) (E_u_RESPONSE_TIME : Exa Z h0 u_RESPONSE_TIME "com/example/leanweave/leanweave/QosMeasure") (S_THROUGHPUT : Sta Z h0 "com/example/leanweave/leanweave/QosMeasure" "THROUGHPUT" "Lcom/example/leanweave/leanweave/QosMeasure;" (.ref u_THROUGHPUT)) (E_u_THROUGHPUT : Exa Z h0 u_THROUGHPUT "com/example/leanweave/leanweave/QosMeasure") (S_COST : Sta Z h0 "com/example/leanweave/leanweave/QosMeasure" "COST" "Lcom/example/leanweave/leanweave/QosMeasure;" (.ref u_COST)) (E_u_COST : Exa Z h0 u_COST "com/example/leanweave/leanweave/QosMeasure") (F_u_RESPONSE_TIME_column : Fld Z h0 u_RESPONSE_TIME "com/example/leanweave/leanweave/QosMeasure" "column" "Ljava/lang/String;" (.ref u_RESPONSE_TIME_column)) (E_u_RESPONSE_TIME_column : Exa Z h0 u_RESPONSE_TIME_column "java/lang/String") (F_u_RESPONSE_TIME_column_coder : Fld Z h0 u_RESPONSE_TIME_column "java/lang/String" "coder" "B" (.int (0 : Int32))) (F_u_RESPONSE_TIME_column_value : Fld Z h0 u_RESPONSE_TIME_column "java/lang/String" "value" "[B" (.ref u_RESPONSE_TIME_column_value)) (F_u_THROUGHPUT_column : Fld Z h0 u_THROUGHPUT "com/example/leanweave/leanweave/QosMeasure" "column" "Ljava/lang/String;" (.ref u_THROUGHPUT_column)) (E_u_THROUGHPUT_column : Exa Z h0 u_THROUGHPUT_column "java/lang/String") (F_u_THROUGHPUT_column_coder : Fld Z h0 u_THROUGHPUT_column "java/lang/String" "coder" "B" (.int (0 : Int32))) (F_u_THROUGHPUT_column_value : Fld Z h0 u_THROUGHPUT_column "java/lang/String" "value" "[B" (.ref u_THROUGHPUT_column_value)) (F_u_COST_column : Fld Z h0 u_COST "com/example/leanweave/leanweave/QosMeasure" "column" "Ljava/lang/String;" (.ref u_COST_column)) (E_u_COST_column : Exa Z h0 u_COST_column "java/lang/String") (F_u_COST_column_coder : Fld Z h0 u_COST_column "java/lang/String" "coder" "B" (.int (0 : Int32))) (F_u_COST_column_value : Fld Z h0 u_COST_column "java/lang/String" "value" "[B" (.ref u_COST_column_value)) (V_u__VALUES : Arv Z h0 u__VALUES cl_u__VALUES.cls (.object "com/example/leanweave/leanweave/QosMeasure") (3 : Int32) [(.ref u_RESPONSE_TIME), (.ref u_THROUGHPUT), (.ref u_COST)] .null) (V_u_RESPONSE_TIME_column_value : Arv Z h0 u_RESPONSE_TIME_column_value cl_u_RESPONSE_TIME_column_value.cls .byte (16 : Int32) [(.int (114 : Int32)), (.int (101 : Int32)), (.int (115 : Int32)), (.int (112 : Int32)), (.int (111 : Int32)), (.int (110 : Int32)), (.int (115 : Int32)), (.int (101 : Int32)), (.int (95 : Int32)), (.int (116 : Int32)), (.int (105 : Int32)), (.int (109 : Int32)), (.int (101 : Int32)), (.int (95 : Int32)), (.int (109 : Int32)), (.int (115 : Int32))] (.int (0 : Int32))) (V_u_THROUGHPUT_column_value : Arv Z h0 u_THROUGHPUT_column_value cl_u_THROUGHPUT_column_value.cls .byte (16 : Int32) [(.int (116 : Int32)), (.int (104 : Int32)), (.int (114 : Int32)), (.int (111 : Int32)), (.int (117 : Int32)), (.int (103 : Int32)), (.int (104 : Int32)), (.int (112 : Int32)), (.int (117 : Int32)), (.int (116 : Int32)), (.int (95 : Int32)), (.int (112 : Int32)), (.int (101 : Int32)), (.int (114 : Int32)), (.int (95 : Int32)), (.int (115 : Int32))] (.int (0 : Int32))) (V_u_COST_column_value : Arv Z h0 u_COST_column_value cl_u_COST_column_value.cls .byte (4 : Int32) [(.int (99 : Int32)), (.int (111 : Int32)), (.int (115 : Int32)), (.int (116 : Int32))] (.int (0 : Int32))) (Sc : Sta Z h0 "java/lang/String" "COMPACT_STRINGS" "Z" (.int cs)) (Es : Exa Z h0 a14_0 "java/lang/String") (Fs : Fld Z h0 a14_0 "java/lang/String" "value" "[B" (.ref ta)) (Fz : Fld Z h0 a14_0 "java/lang/String" "coder" "B" (.int (0 : Int32))) (Vs : Arv Z h0 ta kt .byte nz (List.map Value.int (List.map (fun c => c.toInt8.toInt32) la)) (.int (0 : Int32))) (hcs : ¬ (cs = (0 : Int32))) (hnz : nz = Int32.ofNat la.length) (hb_la : ∀ c ∈ la, ¬ c < 0 ∧ ¬ (255 : Int32) < c) (hl_la : la.length ≤ 4000) (hyR : la = own_LR) :
    MetFree l (⟨"com/example/leanweave/leanweave/QosMeasure", "ofColumn", "(Ljava/lang/String;)Ljava/util/Optional;"⟩ : MethodName) (head1 (Jvm.Cond.code (⟨"com/example/leanweave/leanweave/QosMeasure", "ofColumn", "(Ljava/lang/String;)Ljava/util/Optional;"⟩ : MethodName) prog_22_method_5_code 5 (some (.object "java/util/Optional")) :: ws) ({ frames := 3, cells := 2, slots := 4, locals := 38 } : Room)) (fun a U => a = #[(.ref a14_0)] ∧ Z.Warmed39 U.vm ∧ U.heap = h0) (fun _ _ _ _ _ => True) (fun _ U o U' => ∃ v L, o = .returned v ∧ Q14 Z a14_0 u_EMPTY u__VALUES cl_u__VALUES u_RESPONSE_TIME u_THROUGHPUT u_COST u_RESPONSE_TIME_column u_RESPONSE_TIME_column_value cl_u_RESPONSE_TIME_column_value u_THROUGHPUT_column u_THROUGHPUT_column_value cl_u_THROUGHPUT_column_value u_COST_column u_COST_column_value cl_u_COST_column_value cs ta kt nz la h0 n0 v U'.heap L ∧ FrameEnd U o U' L ({ frames := 3, cells := 2, slots := 4, locals := 38 } : Room).cells ({ frames := 3, cells := 2, slots := 4, locals := 38 } : Room).slots) := by
  refine MetFree.of_bodySF (plainFor_of_name pn_2) hisR ?_
  intro p e s m args below meth c s₁ Bd hml0 hP hK
  obtain ⟨rfl, hZ, hh⟩ := hP
  have hx := Bd.exec
  have hby := Bd.bytes
  have hml : c.maxLocals = 5 := hml0
  have hown : s.vm.findClass "com/example/leanweave/leanweave/QosMeasure" = some m.cls := findClass_of_methodNamed Bd.named
  have hnm := (name_of_methodNamed Bd.named Bd.method).1
  have X0 : Stand p l e ({ frames := 3, cells := 2, slots := 4, locals := 38 } : Room) s m #[(.ref a14_0)] below meth c s₁ [] 0 0 := Stand.of_body Bd
  have e0 : s₁.heap = h0 := by rw [← hh, Bd.state]; rfl
  have N0 := Fr.nil n0
  have pre0 : ∀ t, Steps p.tables e below (s₁.setTop (mkF m 0 #[.val (.ref a14_0), .unset, .unset, .unset, .unset] [])) t → Steps p.tables e below (s₁.setTop (entryFrame m #[(.ref a14_0)] 5)) t := fun t k => castTop (ef_14 m a14_0) k
  obtain ⟨_, _, ⟨T1, L1, k1, n1⟩, -, X1, ⟨Lc1, hQ1, l1, y1, z1⟩, st1⟩ := Jvm.LawKit.callS X0 hx (y := (⟨"com/example/leanweave/leanweave/QosMeasure", "values", "()[Lcom/example/leanweave/leanweave/QosMeasure;"⟩ : MethodName)) hown (mvT hZ (wd hw 77 rfl)) (mvT hZ (wd hw 78 rfl)) (mvT hZ (wd hw 75 rfl)) (mvT hZ (wd hw 79 rfl)) (by decide) (backOf (W := 0) (rm5 l Z a0 hw [] u__VALUES cl_u__VALUES u_RESPONSE_TIME u_THROUGHPUT u_COST h0 n0 Z0 S__VALUES E_u__VALUES V_u__VALUES) hZ (wd hw 79 rfl) (wd hw 75 rfl) (by decide) (by decide)) (g := (mkF m 0 #[.val (.ref a14_0), .unset, .unset, .unset, .unset] [])) rfl (by rw [hml]; rfl) (argsL := []) (rest := []) (lenOf pd_6 rfl) rfl (by show 2 * 0 + _ ≤ _; exact Nat.le_of_eq rfl) (hb hby d14_0) (fun _ _ => ⟨rfl, e0, (by decide : 0 + 1 ≤ _), (by decide : 0 + 3 ≤ _)⟩)
  dsimp only [Pt.U, Pt.locs, Pt.cells, Pt.slots] at X1 l1 y1 z1 st1 hQ1
  rw [l1, y1, z1] at X1
  obtain ⟨v5_1, rfl, N1q, Kc1, ggv5_1, szv5_1, G1_0, G1_1⟩ := hQ1
  have ne2 : u_EMPTY ≠ v5_1 := Nat.ne_of_lt (Nat.lt_of_lt_of_le E_u_EMPTY.lt szv5_1)
  have ne3 : u__VALUES ≠ v5_1 := Nat.ne_of_lt (Nat.lt_of_lt_of_le E_u__VALUES.lt szv5_1)
  have ne4 : u_RESPONSE_TIME ≠ v5_1 := Nat.ne_of_lt (Nat.lt_of_lt_of_le E_u_RESPONSE_TIME.lt szv5_1)
  have ne5 : u_THROUGHPUT ≠ v5_1 := Nat.ne_of_lt (Nat.lt_of_lt_of_le E_u_THROUGHPUT.lt szv5_1)
  have ne6 : u_COST ≠ v5_1 := Nat.ne_of_lt (Nat.lt_of_lt_of_le E_u_COST.lt szv5_1)
  have ne7 : u_RESPONSE_TIME_column ≠ v5_1 := Nat.ne_of_lt (Nat.lt_of_lt_of_le E_u_RESPONSE_TIME_column.lt szv5_1)
  have ne8 : u_THROUGHPUT_column ≠ v5_1 := Nat.ne_of_lt (Nat.lt_of_lt_of_le E_u_THROUGHPUT_column.lt szv5_1)
  have ne9 : u_COST_column ≠ v5_1 := Nat.ne_of_lt (Nat.lt_of_lt_of_le E_u_COST_column.lt szv5_1)
  have ne10 : u_RESPONSE_TIME_column_value ≠ v5_1 := Nat.ne_of_lt (Nat.lt_of_lt_of_le V_u_RESPONSE_TIME_column_value.lt szv5_1)
  have ne11 : u_THROUGHPUT_column_value ≠ v5_1 := Nat.ne_of_lt (Nat.lt_of_lt_of_le V_u_THROUGHPUT_column_value.lt szv5_1)
  have ne12 : u_COST_column_value ≠ v5_1 := Nat.ne_of_lt (Nat.lt_of_lt_of_le V_u_COST_column_value.lt szv5_1)
  have ne13 : a14_0 ≠ v5_1 := Nat.ne_of_lt (Nat.lt_of_lt_of_le Es.lt szv5_1)
  have ne14 : ta ≠ v5_1 := Nat.ne_of_lt (Nat.lt_of_lt_of_le Vs.lt szv5_1)
  have szzv5_1 : h0.size ≤ v5_1 := Nat.le_trans (Keep.refl h0 []).1 szv5_1
  have Zs1 : n0 ≤ T1.heap.size := Nat.le_trans Z0 Kc1.1
  have K1 : Keep h0 T1.heap [] := (Keep.refl h0 []).trans Kc1 all0
  have F15 := own_stakeep S_EMPTY Kc1 all0
  have F16 := E_u_EMPTY.keep Kc1
  have F17 := F_u_EMPTY_value.keep Kc1 nin0
  have F18 := own_stakeep S__VALUES Kc1 all0
  have F19 := E_u__VALUES.keep Kc1
  have F20 := own_stakeep S_RESPONSE_TIME Kc1 all0
  have F21 := E_u_RESPONSE_TIME.keep Kc1
  have F22 := own_stakeep S_THROUGHPUT Kc1 all0
  have F23 := E_u_THROUGHPUT.keep Kc1
  have F24 := own_stakeep S_COST Kc1 all0
  have F25 := E_u_COST.keep Kc1
  have F26 := F_u_RESPONSE_TIME_column.keep Kc1 nin0
  have F27 := E_u_RESPONSE_TIME_column.keep Kc1
  have F28 := F_u_RESPONSE_TIME_column_coder.keep Kc1 nin0
  have F29 := F_u_RESPONSE_TIME_column_value.keep Kc1 nin0
  have F30 := F_u_THROUGHPUT_column.keep Kc1 nin0
  have F31 := E_u_THROUGHPUT_column.keep Kc1
  have F32 := F_u_THROUGHPUT_column_coder.keep Kc1 nin0
  have F33 := F_u_THROUGHPUT_column_value.keep Kc1 nin0
  have F34 := F_u_COST_column.keep Kc1 nin0
  have F35 := E_u_COST_column.keep Kc1
  have F36 := F_u_COST_column_coder.keep Kc1 nin0
  have F37 := F_u_COST_column_value.keep Kc1 nin0
  have F38 := V_u__VALUES.keep Kc1 nin0
  have F39 := V_u_RESPONSE_TIME_column_value.keep Kc1 nin0
  have F40 := V_u_THROUGHPUT_column_value.keep Kc1 nin0
  have F41 := V_u_COST_column_value.keep Kc1 nin0
  have F42 := own_stakeep Sc Kc1 all0
  have F43 := Es.keep Kc1
  have F44 := Fs.keep Kc1 nin0
  have F45 := Fz.keep Kc1 nin0
  have F46 := Vs.keep Kc1 nin0
  have N1 := Fr.app N0 N1q
  obtain ⟨cl47, Ar47, qc47, Sz47, Nn47, Hh47, Gg47⟩ := (id G1_0)
  obtain ⟨cl48, Ar48, qc48, Sz48, Nn48, Hh48, Gg48⟩ := (id G1_0)
  have hin48 : ¬ ((0 : Int32) < 0 ∨ cl48.slots.size ≤ ((0 : Int32)).toNatClampNeg) := inb_of Sz48 ⟨by decide, by decide⟩
  obtain ⟨T49, X49, e49, st49⟩ := getF X1 hx hZ hown (host := "") (Or.inl (wd hw 95 rfl)) Via.refl rfl F26 (g := (mkF m 21 #[.val (.ref a14_0), .val (.ref v5_1), .val (.int (3 : Int32)), .val (.int (0 : Int32)), .val (.ref u_RESPONSE_TIME)] [(.ref u_RESPONSE_TIME)])) rfl rfl (hb hby d14_21)
  obtain ⟨cq50, kq50, q50a, q50b, q50c⟩ := isOf hZ e49 F27
  obtain ⟨_, _, ⟨T50, L50, k50, n50⟩, -, X50, ⟨Lc50, hQ50, l50, y50, z50⟩, st50⟩ := X49.virtualBack hx (y := (⟨"java/lang/String", "equals", "(Ljava/lang/Object;)Z"⟩ : MethodName)) (z := (⟨"java/lang/String", "equals", "(Ljava/lang/Object;)Z"⟩ : MethodName)) hown (mvT hZ (wd hw 97 rfl)) (mvT hZ (wd hw 98 rfl)) (notFace_of_selects (args := #[]) (mvT hZ (wd hw 100 rfl))) (mvT hZ (wd hw 100 rfl)) (mvT hZ (wd hw 99 rfl)) (by decide) (StrChars.Road.eqW (W := 0) hZ (fun d hd => hw d (own_sub_eqW d hd)) (kI := 4) (wd hw 3 rfl) (cs := own_LR) F27 F29 F28 F39 own_codR own_bdR (by decide) (ds := la) F43 F44 F45 F46 (own_codG hnz hb_la) (own_u16 hb_la) hl_la F42 hcs (by decide) (by decide)) q50a q50c (g := (mkF m 25 #[.val (.ref a14_0), .val (.ref v5_1), .val (.int (3 : Int32)), .val (.int (0 : Int32)), .val (.ref u_RESPONSE_TIME)] [(.ref a14_0), (.ref u_RESPONSE_TIME_column)])) rfl (by rw [hml]; rfl) (Steps.refl _) (argsL := [(.ref a14_0)]) (rest := []) (lenOf pd_7 rfl) rfl (by show 2 * 0 + _ ≤ _; exact Nat.le_of_eq rfl) (hb hby d14_25) (fun _ _ => ⟨rfl, e49, (by decide : 1 + 0 ≤ _), (by decide : 3 + 0 ≤ _)⟩)
  dsimp only [Pt.U, Pt.locs, Pt.cells, Pt.slots] at X50 l50 y50 z50 st50 hQ50
  rw [l50, y50, z50] at X50
  obtain ⟨hor50, rfl, eh50⟩ := hQ50
  have N50 := Fr.app N1 (Fr.nil n0)
  have hov50 := own_orT hor50 (Eq.symm hyR)
  subst hov50
  obtain ⟨_, _, ⟨T51, L51, k51, n51⟩, -, X51, ⟨Lc51, hQ51, l51, y51, z51⟩, st51⟩ := Jvm.LawKit.callS X50 hx (y := (⟨"java/util/Optional", "of", "(Ljava/lang/Object;)Ljava/util/Optional;"⟩ : MethodName)) hown (mvT hZ (wd hw 124 rfl)) (mvT hZ (wd hw 125 rfl)) (mvT hZ (wd hw 108 rfl)) (mvT hZ (wd hw 126 rfl)) (by decide) (backOf (W := 0) (rm9 l Z a0 hw [] u_RESPONSE_TIME T1.heap n0 Zs1 ) hZ (wd hw 126 rfl) (wd hw 108 rfl) (by decide) (by decide)) (g := (mkF m 33 #[.val (.ref a14_0), .val (.ref v5_1), .val (.int (3 : Int32)), .val (.int (0 : Int32)), .val (.ref u_RESPONSE_TIME)] [(.ref u_RESPONSE_TIME)])) rfl (by rw [hml]; rfl) (argsL := [(.ref u_RESPONSE_TIME)]) (rest := []) (lenOf pd_8 rfl) rfl (by show 2 * 0 + _ ≤ _; exact Nat.le_of_eq rfl) (hb hby d14_33) (fun _ _ => ⟨rfl, eh50, (by decide : 1 + 1 ≤ _), (by decide : 3 + 1 ≤ _)⟩)
  dsimp only [Pt.U, Pt.locs, Pt.cells, Pt.slots] at X51 l51 y51 z51 st51 hQ51
  rw [l51, y51, z51] at X51
  obtain ⟨r9_51, rfl, N51q, Kc51, ggr9_51, szr9_51, G51_0, G51_1⟩ := hQ51
  have ne52 : u_EMPTY ≠ r9_51 := Nat.ne_of_lt (Nat.lt_of_lt_of_le F16.lt szr9_51)
  have ne53 : u__VALUES ≠ r9_51 := Nat.ne_of_lt (Nat.lt_of_lt_of_le F19.lt szr9_51)
  have ne54 : u_RESPONSE_TIME ≠ r9_51 := Nat.ne_of_lt (Nat.lt_of_lt_of_le F21.lt szr9_51)
  have ne55 : u_THROUGHPUT ≠ r9_51 := Nat.ne_of_lt (Nat.lt_of_lt_of_le F23.lt szr9_51)
  have ne56 : u_COST ≠ r9_51 := Nat.ne_of_lt (Nat.lt_of_lt_of_le F25.lt szr9_51)
  have ne57 : u_RESPONSE_TIME_column ≠ r9_51 := Nat.ne_of_lt (Nat.lt_of_lt_of_le F27.lt szr9_51)
  have ne58 : u_THROUGHPUT_column ≠ r9_51 := Nat.ne_of_lt (Nat.lt_of_lt_of_le F31.lt szr9_51)
  have ne59 : u_COST_column ≠ r9_51 := Nat.ne_of_lt (Nat.lt_of_lt_of_le F35.lt szr9_51)
  have ne60 : u_RESPONSE_TIME_column_value ≠ r9_51 := Nat.ne_of_lt (Nat.lt_of_lt_of_le F39.lt szr9_51)
  have ne61 : u_THROUGHPUT_column_value ≠ r9_51 := Nat.ne_of_lt (Nat.lt_of_lt_of_le F40.lt szr9_51)
  have ne62 : u_COST_column_value ≠ r9_51 := Nat.ne_of_lt (Nat.lt_of_lt_of_le F41.lt szr9_51)
  have ne63 : a14_0 ≠ r9_51 := Nat.ne_of_lt (Nat.lt_of_lt_of_le F43.lt szr9_51)
  have ne64 : ta ≠ r9_51 := Nat.ne_of_lt (Nat.lt_of_lt_of_le F46.lt szr9_51)
  have ne65 : v5_1 ≠ r9_51 := Nat.ne_of_lt (Nat.lt_of_lt_of_le G1_0.lt szr9_51)
  have szzr9_51 : h0.size ≤ r9_51 := Nat.le_trans K1.1 szr9_51
  have Zs51 : n0 ≤ T51.heap.size := Nat.le_trans Zs1 Kc51.1
  have K51 : Keep h0 T51.heap [] := K1.trans Kc51 all0
  have F66 := own_stakeep F15 Kc51 all0
  have F67 := F16.keep Kc51
  have F68 := F17.keep Kc51 nin0
  have F69 := own_stakeep F18 Kc51 all0
  have F70 := F19.keep Kc51
  have F71 := own_stakeep F20 Kc51 all0
  have F72 := F21.keep Kc51
  have F73 := own_stakeep F22 Kc51 all0
  have F74 := F23.keep Kc51
  have F75 := own_stakeep F24 Kc51 all0
  have F76 := F25.keep Kc51
  have F77 := F26.keep Kc51 nin0
  have F78 := F27.keep Kc51
  have F79 := F28.keep Kc51 nin0
  have F80 := F29.keep Kc51 nin0
  have F81 := F30.keep Kc51 nin0
  have F82 := F31.keep Kc51
  have F83 := F32.keep Kc51 nin0
  have F84 := F33.keep Kc51 nin0
  have F85 := F34.keep Kc51 nin0
  have F86 := F35.keep Kc51
  have F87 := F36.keep Kc51 nin0
  have F88 := F37.keep Kc51 nin0
  have F89 := F38.keep Kc51 nin0
  have F90 := F39.keep Kc51 nin0
  have F91 := F40.keep Kc51 nin0
  have F92 := F41.keep Kc51 nin0
  have F93 := own_stakeep F42 Kc51 all0
  have F94 := F43.keep Kc51
  have F95 := F44.keep Kc51 nin0
  have F96 := F45.keep Kc51 nin0
  have F97 := F46.keep Kc51 nin0
  have F98 := G1_0.keep Kc51 nin0
  have F99 := G1_1.keep Kc51
  have N51 := Fr.app N50 N51q
  have k100 : ∀ t, Steps p.tables e below (T51.setTop (mkF m 36 #[.val (.ref a14_0), .val (.ref v5_1), .val (.int (3 : Int32)), .val (.int (0 : Int32)), .val (.ref u_RESPONSE_TIME)] [(.ref r9_51)])) t → Steps p.tables e below (s₁.setTop (entryFrame m #[(.ref a14_0)] 5)) t := by
    intro t k
    refine pre0 t ?_
    refine st1 _ ?_
    refine XS.astoreN X1.here hx rfl (hb hby d14_3) rfl rfl (l' := #[.val (.ref a14_0), .val (.ref v5_1), .unset, .unset, .unset]) rfl ?_
    refine XS.aloadN X1.here hx rfl (hb hby d14_4) rfl rfl ?_
    refine X1.arraylength hx Ar47.1 (State.isArrayOf_alike hZ.alike Ar47.2.1) (g := (mkF m 5 #[.val (.ref a14_0), .val (.ref v5_1), .unset, .unset, .unset] [(.ref v5_1)])) rfl rfl (hb hby d14_5) _ ?_
    rw [len_of Sz47 Nn47]
    refine XS.istoreN X1.here hx rfl (hb hby d14_6) rfl (l' := #[.val (.ref a14_0), .val (.ref v5_1), .val (.int (3 : Int32)), .unset, .unset]) rfl ?_
    refine XS.iconst X1.here hx rfl (hb hby d14_7) ?_
    refine XS.istoreN X1.here hx rfl (hb hby d14_8) rfl (l' := #[.val (.ref a14_0), .val (.ref v5_1), .val (.int (3 : Int32)), .val (.int (0 : Int32)), .unset]) rfl ?_
    refine XS.iloadN X1.here hx rfl (hb hby d14_9) rfl ?_
    refine XS.iloadN X1.here hx rfl (hb hby d14_10) rfl ?_
    refine XS.icmpNo X1.here hx rfl (hb hby d14_11) rfl (tlt (by decide : (0 : Int32) < (3 : Int32))).2.1 ?_
    refine XS.aloadN X1.here hx rfl (hb hby d14_14) rfl rfl ?_
    refine XS.iloadN X1.here hx rfl (hb hby d14_15) rfl ?_
    refine X1.aaload hx (j := (0 : Int32)) (v := (.ref u_RESPONSE_TIME)) Ar48.1 (State.isArrayOf_alike hZ.alike Ar48.2.1) rfl Ar48.2.2 hin48 (Hh48.at hin48 rfl) (g := (mkF m 16 #[.val (.ref a14_0), .val (.ref v5_1), .val (.int (3 : Int32)), .val (.int (0 : Int32)), .unset] [(.int (0 : Int32)), (.ref v5_1)])) rfl rfl (hb hby d14_16) _ ?_
    refine XS.astore X1.here hx rfl (hb hby d14_17) rfl rfl (l' := #[.val (.ref a14_0), .val (.ref v5_1), .val (.int (3 : Int32)), .val (.int (0 : Int32)), .val (.ref u_RESPONSE_TIME)]) rfl ?_
    refine XS.aload X1.here hx rfl (hb hby d14_19) rfl rfl ?_
    refine st49 _ ?_
    refine XS.aloadN X49.here hx rfl (hb hby d14_24) rfl rfl ?_
    show Steps p.tables e below (T49.setTop (mkF m 25 #[.val (.ref a14_0), .val (.ref v5_1), .val (.int (3 : Int32)), .val (.int (0 : Int32)), .val (.ref u_RESPONSE_TIME)] [(.ref a14_0), (.ref u_RESPONSE_TIME_column)])) _
    refine st50.trans ?_
    refine XS.ifNo X50.here hx rfl (hb hby d14_28) rfl ((if0 _ _).trans (feq (by decide : ¬ ((1 : Int32) = (0 : Int32)))).1) ?_
    refine XS.aload X50.here hx rfl (hb hby d14_31) rfl rfl ?_
    refine st51 _ ?_
    exact k
  obtain ⟨fs, hr, hrun, hended, hW, hsame⟩ := X51.leave (v := some (.ref r9_51)) (fun h => by rw [Bd.returns] at h; cases h)
  refine ⟨_, _, k100 _ ?_, hrun, hended, _, _, rfl, ?_, ⟨_, rfl⟩, hW, hsame.mono (by decide) (by decide)⟩
  · exact retOut X51 hx Bd.returns rfl (Or.inr (Or.inr (Or.inr (Or.inr ⟨rfl, rfl, rfl⟩)))) (hb hby d14_36) hr
  · show Q14 Z a14_0 u_EMPTY u__VALUES cl_u__VALUES u_RESPONSE_TIME u_THROUGHPUT u_COST u_RESPONSE_TIME_column u_RESPONSE_TIME_column_value cl_u_RESPONSE_TIME_column_value u_THROUGHPUT_column u_THROUGHPUT_column_value cl_u_THROUGHPUT_column_value u_COST_column u_COST_column_value cl_u_COST_column_value cs ta kt nz la h0 n0 _ T51.heap _
    exact ⟨r9_51, rfl, N51, K51, ggr9_51, szzr9_51, G51_0, G51_1⟩
theorem d15_0 : decode prog_22_method_5_code 0 = .ok (.invokestatic 36, 3) := by decide +kernel
theorem d15_3 : decode prog_22_method_5_code 3 = .ok (.astore_n 1, 1) := by decide +kernel
theorem d15_4 : decode prog_22_method_5_code 4 = .ok (.aload_n 1, 1) := by decide +kernel
theorem d15_5 : decode prog_22_method_5_code 5 = .ok (.arraylength, 1) := by decide +kernel
theorem d15_6 : decode prog_22_method_5_code 6 = .ok (.istore_n 2, 1) := by decide +kernel
theorem d15_7 : decode prog_22_method_5_code 7 = .ok (.iconst 0, 1) := by decide +kernel
theorem d15_8 : decode prog_22_method_5_code 8 = .ok (.istore_n 3, 1) := by decide +kernel
theorem d15_9 : decode prog_22_method_5_code 9 = .ok (.iload_n 3, 1) := by decide +kernel
theorem d15_10 : decode prog_22_method_5_code 10 = .ok (.iload_n 2, 1) := by decide +kernel
theorem d15_11 : decode prog_22_method_5_code 11 = .ok (.if_icmp .ge 32, 3) := by decide +kernel
theorem d15_14 : decode prog_22_method_5_code 14 = .ok (.aload_n 1, 1) := by decide +kernel
theorem d15_15 : decode prog_22_method_5_code 15 = .ok (.iload_n 3, 1) := by decide +kernel
theorem d15_16 : decode prog_22_method_5_code 16 = .ok (.aaload, 1) := by decide +kernel
theorem d15_17 : decode prog_22_method_5_code 17 = .ok (.astore 4, 2) := by decide +kernel
theorem d15_19 : decode prog_22_method_5_code 19 = .ok (.aload 4, 2) := by decide +kernel
theorem d15_21 : decode prog_22_method_5_code 21 = .ok (.getfield 32, 3) := by decide +kernel
theorem d15_24 : decode prog_22_method_5_code 24 = .ok (.aload_n 0, 1) := by decide +kernel
theorem d15_25 : decode prog_22_method_5_code 25 = .ok (.invokevirtual 40, 3) := by decide +kernel
theorem d15_28 : decode prog_22_method_5_code 28 = .ok (.ifCond .eq 9, 3) := by decide +kernel
theorem d15_31 : decode prog_22_method_5_code 31 = .ok (.aload 4, 2) := by decide +kernel
theorem d15_33 : decode prog_22_method_5_code 33 = .ok (.invokestatic 46, 3) := by decide +kernel
theorem d15_36 : decode prog_22_method_5_code 36 = .ok (.areturn, 1) := by decide +kernel
theorem d15_37 : decode prog_22_method_5_code 37 = .ok (.iinc 3 1, 3) := by decide +kernel
theorem d15_40 : decode prog_22_method_5_code 40 = .ok (.goto (-31), 3) := by decide +kernel
theorem ef_15 (m : MethodId) (a15_0 : Addr) : entryFrame m #[(.ref a15_0)] 5 = mkF m 0 #[.val (.ref a15_0), .unset, .unset, .unset, .unset] [] := by first | (simp [entryFrame, mkF, argsToLocals, Value.category]; done) | rfl
def Q15 (Z : State) (a15_0 : Addr) (u_EMPTY : Addr) (u__VALUES : Addr) (cl_u__VALUES : Cell) (u_RESPONSE_TIME : Addr) (u_THROUGHPUT : Addr) (u_COST : Addr) (u_RESPONSE_TIME_column : Addr) (u_RESPONSE_TIME_column_value : Addr) (cl_u_RESPONSE_TIME_column_value : Cell) (u_THROUGHPUT_column : Addr) (u_THROUGHPUT_column_value : Addr) (cl_u_THROUGHPUT_column_value : Cell) (u_COST_column : Addr) (u_COST_column_value : Addr) (cl_u_COST_column_value : Cell) (cs : Int32) (ta : Addr) (kt : ClassId) (nz : Int32) (la : List Int32) (h0 : Heap) (n0 : Nat) (v : Option Value) (h : Heap) (L : List Loc) : Prop := ∃ ro : Addr, v = some (.ref ro) ∧ Fr n0 L ∧ Keep h0 h [] ∧ n0 ≤ ro ∧ h0.size ≤ ro ∧ Exa Z h ro "java/util/Optional" ∧ Fld Z h ro "java/util/Optional" "value" "Ljava/lang/Object;" (.ref u_THROUGHPUT)
set_option maxRecDepth 65536 in
set_option maxHeartbeats 40000000 in
theorem rm15 (l : Launch) (Z : State) (a0 : Array Value) (hw : ∀ d ∈ tables_1, d.before a0 Z = true) (ws : List Jvm.Cond) (a15_0 : Addr) (u_EMPTY : Addr) (u__VALUES : Addr) (cl_u__VALUES : Cell) (u_RESPONSE_TIME : Addr) (u_THROUGHPUT : Addr) (u_COST : Addr) (u_RESPONSE_TIME_column : Addr) (u_RESPONSE_TIME_column_value : Addr) (cl_u_RESPONSE_TIME_column_value : Cell) (u_THROUGHPUT_column : Addr) (u_THROUGHPUT_column_value : Addr) (cl_u_THROUGHPUT_column_value : Cell) (u_COST_column : Addr) (u_COST_column_value : Addr) (cl_u_COST_column_value : Cell) (cs : Int32) (ta : Addr) (kt : ClassId) (nz : Int32) (la : List Int32) (h0 : Heap) (n0 : Nat) (Z0 : n0 ≤ h0.size) (S_EMPTY : Sta Z h0 "java/util/Optional" "EMPTY" "Ljava/util/Optional;" (.ref u_EMPTY)) (E_u_EMPTY : Exa Z h0 u_EMPTY "java/util/Optional") (F_u_EMPTY_value : Fld Z h0 u_EMPTY "java/util/Optional" "value" "Ljava/lang/Object;" .null) (S__VALUES : Sta Z h0 "com/example/leanweave/leanweave/QosMeasure" "$VALUES" "[Lcom/example/leanweave/leanweave/QosMeasure;" (.ref u__VALUES)) (E_u__VALUES : Exa Z h0 u__VALUES "[Lcom/example/leanweave/leanweave/QosMeasure;") (S_RESPONSE_TIME : Sta Z h0 "com/example/leanweave/leanweave/QosMeasure" "RESPONSE_TIME" "Lcom/example/leanweave/leanweave/QosMeasure;" (.ref u_RESPONSE_TIME)) (E_u_RESPONSE_TIME : Exa Z h0 u_RESPONSE_TIME "com/example/leanweave/leanweave/QosMeasure") (S_THROUGHPUT : Sta Z h0 "com/example/leanweave/leanweave/QosMeasure" "THROUGHPUT" "Lcom/example/leanweave/leanweave/QosMeasure;" (.ref u_THROUGHPUT)) (E_u_THROUGHPUT : Exa Z h0 u_THROUGHPUT "com/example/leanweave/leanweave/QosMeasure") (S_COST : Sta Z h0 "com/example/leanweave/leanweave/QosMeasure" "COST" "Lcom/example/leanweave/leanweave/QosMeasure;" (.ref u_COST)) (E_u_COST : Exa Z h0 u_COST "com/example/leanweave/leanweave/QosMeasure") (F_u_RESPONSE_TIME_column : Fld Z h0 u_RESPONSE_TIME "com/example/leanweave/leanweave/QosMeasure" "column" "Ljava/lang/String;" (.ref u_RESPONSE_TIME_column)) (E_u_RESPONSE_TIME_column : Exa Z h0 u_RESPONSE_TIME_column "java/lang/String") (F_u_RESPONSE_TIME_column_coder : Fld Z h0 u_RESPONSE_TIME_column "java/lang/String" "coder" "B" (.int (0 : Int32))) (F_u_RESPONSE_TIME_column_value : Fld Z h0 u_RESPONSE_TIME_column "java/lang/String" "value" "[B" (.ref u_RESPONSE_TIME_column_value)) (F_u_THROUGHPUT_column : Fld Z h0 u_THROUGHPUT "com/example/leanweave/leanweave/QosMeasure" "column" "Ljava/lang/String;" (.ref u_THROUGHPUT_column)) (E_u_THROUGHPUT_column : Exa Z h0 u_THROUGHPUT_column "java/lang/String") (F_u_THROUGHPUT_column_coder : Fld Z h0 u_THROUGHPUT_column "java/lang/String" "coder" "B" (.int (0 : Int32))) (F_u_THROUGHPUT_column_value : Fld Z h0 u_THROUGHPUT_column "java/lang/String" "value" "[B" (.ref u_THROUGHPUT_column_value)) (F_u_COST_column : Fld Z h0 u_COST "com/example/leanweave/leanweave/QosMeasure" "column" "Ljava/lang/String;" (.ref u_COST_column)) (E_u_COST_column : Exa Z h0 u_COST_column "java/lang/String") (F_u_COST_column_coder : Fld Z h0 u_COST_column "java/lang/String" "coder" "B" (.int (0 : Int32))) (F_u_COST_column_value : Fld Z h0 u_COST_column "java/lang/String" "value" "[B" (.ref u_COST_column_value)) (V_u__VALUES : Arv Z h0 u__VALUES cl_u__VALUES.cls (.object "com/example/leanweave/leanweave/QosMeasure") (3 : Int32) [(.ref u_RESPONSE_TIME), (.ref u_THROUGHPUT), (.ref u_COST)] .null) (V_u_RESPONSE_TIME_column_value : Arv Z h0 u_RESPONSE_TIME_column_value cl_u_RESPONSE_TIME_column_value.cls .byte (16 : Int32) [(.int (114 : Int32)), (.int (101 : Int32)), (.int (115 : Int32)), (.int (112 : Int32)), (.int (111 : Int32)), (.int (110 : Int32)), (.int (115 : Int32)), (.int (101 : Int32)), (.int (95 : Int32)), (.int (116 : Int32)), (.int (105 : Int32)), (.int (109 : Int32)), (.int (101 : Int32)), (.int (95 : Int32)), (.int (109 : Int32)), (.int (115 : Int32))] (.int (0 : Int32))) (V_u_THROUGHPUT_column_value : Arv Z h0 u_THROUGHPUT_column_value cl_u_THROUGHPUT_column_value.cls .byte (16 : Int32) [(.int (116 : Int32)), (.int (104 : Int32)), (.int (114 : Int32)), (.int (111 : Int32)), (.int (117 : Int32)), (.int (103 : Int32)), (.int (104 : Int32)), (.int (112 : Int32)), (.int (117 : Int32)), (.int (116 : Int32)), (.int (95 : Int32)), (.int (112 : Int32)), (.int (101 : Int32)), (.int (114 : Int32)), (.int (95 : Int32)), (.int (115 : Int32))] (.int (0 : Int32))) (V_u_COST_column_value : Arv Z h0 u_COST_column_value cl_u_COST_column_value.cls .byte (4 : Int32) [(.int (99 : Int32)), (.int (111 : Int32)), (.int (115 : Int32)), (.int (116 : Int32))] (.int (0 : Int32))) (Sc : Sta Z h0 "java/lang/String" "COMPACT_STRINGS" "Z" (.int cs)) (Es : Exa Z h0 a15_0 "java/lang/String") (Fs : Fld Z h0 a15_0 "java/lang/String" "value" "[B" (.ref ta)) (Fz : Fld Z h0 a15_0 "java/lang/String" "coder" "B" (.int (0 : Int32))) (Vs : Arv Z h0 ta kt .byte nz (List.map Value.int (List.map (fun c => c.toInt8.toInt32) la)) (.int (0 : Int32))) (hcs : ¬ (cs = (0 : Int32))) (hnz : nz = Int32.ofNat la.length) (hb_la : ∀ c ∈ la, ¬ c < 0 ∧ ¬ (255 : Int32) < c) (hl_la : la.length ≤ 4000) (hnR : ¬ (la = own_LR)) (hyT : la = own_LT) :
    MetFree l (⟨"com/example/leanweave/leanweave/QosMeasure", "ofColumn", "(Ljava/lang/String;)Ljava/util/Optional;"⟩ : MethodName) (head1 (Jvm.Cond.code (⟨"com/example/leanweave/leanweave/QosMeasure", "ofColumn", "(Ljava/lang/String;)Ljava/util/Optional;"⟩ : MethodName) prog_22_method_5_code 5 (some (.object "java/util/Optional")) :: ws) ({ frames := 3, cells := 2, slots := 4, locals := 38 } : Room)) (fun a U => a = #[(.ref a15_0)] ∧ Z.Warmed39 U.vm ∧ U.heap = h0) (fun _ _ _ _ _ => True) (fun _ U o U' => ∃ v L, o = .returned v ∧ Q15 Z a15_0 u_EMPTY u__VALUES cl_u__VALUES u_RESPONSE_TIME u_THROUGHPUT u_COST u_RESPONSE_TIME_column u_RESPONSE_TIME_column_value cl_u_RESPONSE_TIME_column_value u_THROUGHPUT_column u_THROUGHPUT_column_value cl_u_THROUGHPUT_column_value u_COST_column u_COST_column_value cl_u_COST_column_value cs ta kt nz la h0 n0 v U'.heap L ∧ FrameEnd U o U' L ({ frames := 3, cells := 2, slots := 4, locals := 38 } : Room).cells ({ frames := 3, cells := 2, slots := 4, locals := 38 } : Room).slots) := by
  refine MetFree.of_bodySF (plainFor_of_name pn_2) hisR ?_
  intro p e s m args below meth c s₁ Bd hml0 hP hK
  obtain ⟨rfl, hZ, hh⟩ := hP
  have hx := Bd.exec
  have hby := Bd.bytes
  have hml : c.maxLocals = 5 := hml0
  have hown : s.vm.findClass "com/example/leanweave/leanweave/QosMeasure" = some m.cls := findClass_of_methodNamed Bd.named
  have hnm := (name_of_methodNamed Bd.named Bd.method).1
  have X0 : Stand p l e ({ frames := 3, cells := 2, slots := 4, locals := 38 } : Room) s m #[(.ref a15_0)] below meth c s₁ [] 0 0 := Stand.of_body Bd
  have e0 : s₁.heap = h0 := by rw [← hh, Bd.state]; rfl
  have N0 := Fr.nil n0
  have pre0 : ∀ t, Steps p.tables e below (s₁.setTop (mkF m 0 #[.val (.ref a15_0), .unset, .unset, .unset, .unset] [])) t → Steps p.tables e below (s₁.setTop (entryFrame m #[(.ref a15_0)] 5)) t := fun t k => castTop (ef_15 m a15_0) k
  obtain ⟨_, _, ⟨T1, L1, k1, n1⟩, -, X1, ⟨Lc1, hQ1, l1, y1, z1⟩, st1⟩ := Jvm.LawKit.callS X0 hx (y := (⟨"com/example/leanweave/leanweave/QosMeasure", "values", "()[Lcom/example/leanweave/leanweave/QosMeasure;"⟩ : MethodName)) hown (mvT hZ (wd hw 77 rfl)) (mvT hZ (wd hw 78 rfl)) (mvT hZ (wd hw 75 rfl)) (mvT hZ (wd hw 79 rfl)) (by decide) (backOf (W := 0) (rm5 l Z a0 hw [] u__VALUES cl_u__VALUES u_RESPONSE_TIME u_THROUGHPUT u_COST h0 n0 Z0 S__VALUES E_u__VALUES V_u__VALUES) hZ (wd hw 79 rfl) (wd hw 75 rfl) (by decide) (by decide)) (g := (mkF m 0 #[.val (.ref a15_0), .unset, .unset, .unset, .unset] [])) rfl (by rw [hml]; rfl) (argsL := []) (rest := []) (lenOf pd_6 rfl) rfl (by show 2 * 0 + _ ≤ _; exact Nat.le_of_eq rfl) (hb hby d15_0) (fun _ _ => ⟨rfl, e0, (by decide : 0 + 1 ≤ _), (by decide : 0 + 3 ≤ _)⟩)
  dsimp only [Pt.U, Pt.locs, Pt.cells, Pt.slots] at X1 l1 y1 z1 st1 hQ1
  rw [l1, y1, z1] at X1
  obtain ⟨v5_1, rfl, N1q, Kc1, ggv5_1, szv5_1, G1_0, G1_1⟩ := hQ1
  have ne2 : u_EMPTY ≠ v5_1 := Nat.ne_of_lt (Nat.lt_of_lt_of_le E_u_EMPTY.lt szv5_1)
  have ne3 : u__VALUES ≠ v5_1 := Nat.ne_of_lt (Nat.lt_of_lt_of_le E_u__VALUES.lt szv5_1)
  have ne4 : u_RESPONSE_TIME ≠ v5_1 := Nat.ne_of_lt (Nat.lt_of_lt_of_le E_u_RESPONSE_TIME.lt szv5_1)
  have ne5 : u_THROUGHPUT ≠ v5_1 := Nat.ne_of_lt (Nat.lt_of_lt_of_le E_u_THROUGHPUT.lt szv5_1)
  have ne6 : u_COST ≠ v5_1 := Nat.ne_of_lt (Nat.lt_of_lt_of_le E_u_COST.lt szv5_1)
  have ne7 : u_RESPONSE_TIME_column ≠ v5_1 := Nat.ne_of_lt (Nat.lt_of_lt_of_le E_u_RESPONSE_TIME_column.lt szv5_1)
  have ne8 : u_THROUGHPUT_column ≠ v5_1 := Nat.ne_of_lt (Nat.lt_of_lt_of_le E_u_THROUGHPUT_column.lt szv5_1)
  have ne9 : u_COST_column ≠ v5_1 := Nat.ne_of_lt (Nat.lt_of_lt_of_le E_u_COST_column.lt szv5_1)
  have ne10 : u_RESPONSE_TIME_column_value ≠ v5_1 := Nat.ne_of_lt (Nat.lt_of_lt_of_le V_u_RESPONSE_TIME_column_value.lt szv5_1)
  have ne11 : u_THROUGHPUT_column_value ≠ v5_1 := Nat.ne_of_lt (Nat.lt_of_lt_of_le V_u_THROUGHPUT_column_value.lt szv5_1)
  have ne12 : u_COST_column_value ≠ v5_1 := Nat.ne_of_lt (Nat.lt_of_lt_of_le V_u_COST_column_value.lt szv5_1)
  have ne13 : a15_0 ≠ v5_1 := Nat.ne_of_lt (Nat.lt_of_lt_of_le Es.lt szv5_1)
  have ne14 : ta ≠ v5_1 := Nat.ne_of_lt (Nat.lt_of_lt_of_le Vs.lt szv5_1)
  have szzv5_1 : h0.size ≤ v5_1 := Nat.le_trans (Keep.refl h0 []).1 szv5_1
  have Zs1 : n0 ≤ T1.heap.size := Nat.le_trans Z0 Kc1.1
  have K1 : Keep h0 T1.heap [] := (Keep.refl h0 []).trans Kc1 all0
  have F15 := own_stakeep S_EMPTY Kc1 all0
  have F16 := E_u_EMPTY.keep Kc1
  have F17 := F_u_EMPTY_value.keep Kc1 nin0
  have F18 := own_stakeep S__VALUES Kc1 all0
  have F19 := E_u__VALUES.keep Kc1
  have F20 := own_stakeep S_RESPONSE_TIME Kc1 all0
  have F21 := E_u_RESPONSE_TIME.keep Kc1
  have F22 := own_stakeep S_THROUGHPUT Kc1 all0
  have F23 := E_u_THROUGHPUT.keep Kc1
  have F24 := own_stakeep S_COST Kc1 all0
  have F25 := E_u_COST.keep Kc1
  have F26 := F_u_RESPONSE_TIME_column.keep Kc1 nin0
  have F27 := E_u_RESPONSE_TIME_column.keep Kc1
  have F28 := F_u_RESPONSE_TIME_column_coder.keep Kc1 nin0
  have F29 := F_u_RESPONSE_TIME_column_value.keep Kc1 nin0
  have F30 := F_u_THROUGHPUT_column.keep Kc1 nin0
  have F31 := E_u_THROUGHPUT_column.keep Kc1
  have F32 := F_u_THROUGHPUT_column_coder.keep Kc1 nin0
  have F33 := F_u_THROUGHPUT_column_value.keep Kc1 nin0
  have F34 := F_u_COST_column.keep Kc1 nin0
  have F35 := E_u_COST_column.keep Kc1
  have F36 := F_u_COST_column_coder.keep Kc1 nin0
  have F37 := F_u_COST_column_value.keep Kc1 nin0
  have F38 := V_u__VALUES.keep Kc1 nin0
  have F39 := V_u_RESPONSE_TIME_column_value.keep Kc1 nin0
  have F40 := V_u_THROUGHPUT_column_value.keep Kc1 nin0
  have F41 := V_u_COST_column_value.keep Kc1 nin0
  have F42 := own_stakeep Sc Kc1 all0
  have F43 := Es.keep Kc1
  have F44 := Fs.keep Kc1 nin0
  have F45 := Fz.keep Kc1 nin0
  have F46 := Vs.keep Kc1 nin0
  have N1 := Fr.app N0 N1q
  obtain ⟨cl47, Ar47, qc47, Sz47, Nn47, Hh47, Gg47⟩ := (id G1_0)
  obtain ⟨cl48, Ar48, qc48, Sz48, Nn48, Hh48, Gg48⟩ := (id G1_0)
  have hin48 : ¬ ((0 : Int32) < 0 ∨ cl48.slots.size ≤ ((0 : Int32)).toNatClampNeg) := inb_of Sz48 ⟨by decide, by decide⟩
  obtain ⟨T49, X49, e49, st49⟩ := getF X1 hx hZ hown (host := "") (Or.inl (wd hw 95 rfl)) Via.refl rfl F26 (g := (mkF m 21 #[.val (.ref a15_0), .val (.ref v5_1), .val (.int (3 : Int32)), .val (.int (0 : Int32)), .val (.ref u_RESPONSE_TIME)] [(.ref u_RESPONSE_TIME)])) rfl rfl (hb hby d15_21)
  obtain ⟨cq50, kq50, q50a, q50b, q50c⟩ := isOf hZ e49 F27
  obtain ⟨_, _, ⟨T50, L50, k50, n50⟩, -, X50, ⟨Lc50, hQ50, l50, y50, z50⟩, st50⟩ := X49.virtualBack hx (y := (⟨"java/lang/String", "equals", "(Ljava/lang/Object;)Z"⟩ : MethodName)) (z := (⟨"java/lang/String", "equals", "(Ljava/lang/Object;)Z"⟩ : MethodName)) hown (mvT hZ (wd hw 97 rfl)) (mvT hZ (wd hw 98 rfl)) (notFace_of_selects (args := #[]) (mvT hZ (wd hw 100 rfl))) (mvT hZ (wd hw 100 rfl)) (mvT hZ (wd hw 99 rfl)) (by decide) (StrChars.Road.eqW (W := 0) hZ (fun d hd => hw d (own_sub_eqW d hd)) (kI := 4) (wd hw 3 rfl) (cs := own_LR) F27 F29 F28 F39 own_codR own_bdR (by decide) (ds := la) F43 F44 F45 F46 (own_codG hnz hb_la) (own_u16 hb_la) hl_la F42 hcs (by decide) (by decide)) q50a q50c (g := (mkF m 25 #[.val (.ref a15_0), .val (.ref v5_1), .val (.int (3 : Int32)), .val (.int (0 : Int32)), .val (.ref u_RESPONSE_TIME)] [(.ref a15_0), (.ref u_RESPONSE_TIME_column)])) rfl (by rw [hml]; rfl) (Steps.refl _) (argsL := [(.ref a15_0)]) (rest := []) (lenOf pd_7 rfl) rfl (by show 2 * 0 + _ ≤ _; exact Nat.le_of_eq rfl) (hb hby d15_25) (fun _ _ => ⟨rfl, e49, (by decide : 1 + 0 ≤ _), (by decide : 3 + 0 ≤ _)⟩)
  dsimp only [Pt.U, Pt.locs, Pt.cells, Pt.slots] at X50 l50 y50 z50 st50 hQ50
  rw [l50, y50, z50] at X50
  obtain ⟨hor50, rfl, eh50⟩ := hQ50
  have N50 := Fr.app N1 (Fr.nil n0)
  have hov50 := own_orF hor50 (fun q => hnR q.symm)
  subst hov50
  obtain ⟨cl51, Ar51, qc51, Sz51, Nn51, Hh51, Gg51⟩ := (id G1_0)
  have hin51 : ¬ ((1 : Int32) < 0 ∨ cl51.slots.size ≤ ((1 : Int32)).toNatClampNeg) := inb_of Sz51 ⟨by decide, by decide⟩
  obtain ⟨T52, X52, e52, st52⟩ := getF X50 hx hZ hown (host := "") (Or.inl (wd hw 95 rfl)) Via.refl eh50 F30 (g := (mkF m 21 #[.val (.ref a15_0), .val (.ref v5_1), .val (.int (3 : Int32)), .val (.int (1 : Int32)), .val (.ref u_THROUGHPUT)] [(.ref u_THROUGHPUT)])) rfl rfl (hb hby d15_21)
  obtain ⟨cq53, kq53, q53a, q53b, q53c⟩ := isOf hZ e52 F31
  obtain ⟨_, _, ⟨T53, L53, k53, n53⟩, -, X53, ⟨Lc53, hQ53, l53, y53, z53⟩, st53⟩ := X52.virtualBack hx (y := (⟨"java/lang/String", "equals", "(Ljava/lang/Object;)Z"⟩ : MethodName)) (z := (⟨"java/lang/String", "equals", "(Ljava/lang/Object;)Z"⟩ : MethodName)) hown (mvT hZ (wd hw 97 rfl)) (mvT hZ (wd hw 98 rfl)) (notFace_of_selects (args := #[]) (mvT hZ (wd hw 100 rfl))) (mvT hZ (wd hw 100 rfl)) (mvT hZ (wd hw 99 rfl)) (by decide) (StrChars.Road.eqW (W := 0) hZ (fun d hd => hw d (own_sub_eqW d hd)) (kI := 4) (wd hw 3 rfl) (cs := own_LT) F31 F33 F32 F40 own_codT own_bdT (by decide) (ds := la) F43 F44 F45 F46 (own_codG hnz hb_la) (own_u16 hb_la) hl_la F42 hcs (by decide) (by decide)) q53a q53c (g := (mkF m 25 #[.val (.ref a15_0), .val (.ref v5_1), .val (.int (3 : Int32)), .val (.int (1 : Int32)), .val (.ref u_THROUGHPUT)] [(.ref a15_0), (.ref u_THROUGHPUT_column)])) rfl (by rw [hml]; rfl) (Steps.refl _) (argsL := [(.ref a15_0)]) (rest := []) (lenOf pd_7 rfl) rfl (by show 2 * 0 + _ ≤ _; exact Nat.le_of_eq rfl) (hb hby d15_25) (fun _ _ => ⟨rfl, e52, (by decide : 1 + 0 ≤ _), (by decide : 3 + 0 ≤ _)⟩)
  dsimp only [Pt.U, Pt.locs, Pt.cells, Pt.slots] at X53 l53 y53 z53 st53 hQ53
  rw [l53, y53, z53] at X53
  obtain ⟨hor53, rfl, eh53⟩ := hQ53
  have N53 := Fr.app N50 (Fr.nil n0)
  have hov53 := own_orT hor53 (Eq.symm hyT)
  subst hov53
  obtain ⟨_, _, ⟨T54, L54, k54, n54⟩, -, X54, ⟨Lc54, hQ54, l54, y54, z54⟩, st54⟩ := Jvm.LawKit.callS X53 hx (y := (⟨"java/util/Optional", "of", "(Ljava/lang/Object;)Ljava/util/Optional;"⟩ : MethodName)) hown (mvT hZ (wd hw 124 rfl)) (mvT hZ (wd hw 125 rfl)) (mvT hZ (wd hw 108 rfl)) (mvT hZ (wd hw 126 rfl)) (by decide) (backOf (W := 0) (rm9 l Z a0 hw [] u_THROUGHPUT T1.heap n0 Zs1 ) hZ (wd hw 126 rfl) (wd hw 108 rfl) (by decide) (by decide)) (g := (mkF m 33 #[.val (.ref a15_0), .val (.ref v5_1), .val (.int (3 : Int32)), .val (.int (1 : Int32)), .val (.ref u_THROUGHPUT)] [(.ref u_THROUGHPUT)])) rfl (by rw [hml]; rfl) (argsL := [(.ref u_THROUGHPUT)]) (rest := []) (lenOf pd_8 rfl) rfl (by show 2 * 0 + _ ≤ _; exact Nat.le_of_eq rfl) (hb hby d15_33) (fun _ _ => ⟨rfl, eh53, (by decide : 1 + 1 ≤ _), (by decide : 3 + 1 ≤ _)⟩)
  dsimp only [Pt.U, Pt.locs, Pt.cells, Pt.slots] at X54 l54 y54 z54 st54 hQ54
  rw [l54, y54, z54] at X54
  obtain ⟨r9_54, rfl, N54q, Kc54, ggr9_54, szr9_54, G54_0, G54_1⟩ := hQ54
  have ne55 : u_EMPTY ≠ r9_54 := Nat.ne_of_lt (Nat.lt_of_lt_of_le F16.lt szr9_54)
  have ne56 : u__VALUES ≠ r9_54 := Nat.ne_of_lt (Nat.lt_of_lt_of_le F19.lt szr9_54)
  have ne57 : u_RESPONSE_TIME ≠ r9_54 := Nat.ne_of_lt (Nat.lt_of_lt_of_le F21.lt szr9_54)
  have ne58 : u_THROUGHPUT ≠ r9_54 := Nat.ne_of_lt (Nat.lt_of_lt_of_le F23.lt szr9_54)
  have ne59 : u_COST ≠ r9_54 := Nat.ne_of_lt (Nat.lt_of_lt_of_le F25.lt szr9_54)
  have ne60 : u_RESPONSE_TIME_column ≠ r9_54 := Nat.ne_of_lt (Nat.lt_of_lt_of_le F27.lt szr9_54)
  have ne61 : u_THROUGHPUT_column ≠ r9_54 := Nat.ne_of_lt (Nat.lt_of_lt_of_le F31.lt szr9_54)
  have ne62 : u_COST_column ≠ r9_54 := Nat.ne_of_lt (Nat.lt_of_lt_of_le F35.lt szr9_54)
  have ne63 : u_RESPONSE_TIME_column_value ≠ r9_54 := Nat.ne_of_lt (Nat.lt_of_lt_of_le F39.lt szr9_54)
  have ne64 : u_THROUGHPUT_column_value ≠ r9_54 := Nat.ne_of_lt (Nat.lt_of_lt_of_le F40.lt szr9_54)
  have ne65 : u_COST_column_value ≠ r9_54 := Nat.ne_of_lt (Nat.lt_of_lt_of_le F41.lt szr9_54)
  have ne66 : a15_0 ≠ r9_54 := Nat.ne_of_lt (Nat.lt_of_lt_of_le F43.lt szr9_54)
  have ne67 : ta ≠ r9_54 := Nat.ne_of_lt (Nat.lt_of_lt_of_le F46.lt szr9_54)
  have ne68 : v5_1 ≠ r9_54 := Nat.ne_of_lt (Nat.lt_of_lt_of_le G1_0.lt szr9_54)
  have szzr9_54 : h0.size ≤ r9_54 := Nat.le_trans K1.1 szr9_54
  have Zs54 : n0 ≤ T54.heap.size := Nat.le_trans Zs1 Kc54.1
  have K54 : Keep h0 T54.heap [] := K1.trans Kc54 all0
  have F69 := own_stakeep F15 Kc54 all0
  have F70 := F16.keep Kc54
  have F71 := F17.keep Kc54 nin0
  have F72 := own_stakeep F18 Kc54 all0
  have F73 := F19.keep Kc54
  have F74 := own_stakeep F20 Kc54 all0
  have F75 := F21.keep Kc54
  have F76 := own_stakeep F22 Kc54 all0
  have F77 := F23.keep Kc54
  have F78 := own_stakeep F24 Kc54 all0
  have F79 := F25.keep Kc54
  have F80 := F26.keep Kc54 nin0
  have F81 := F27.keep Kc54
  have F82 := F28.keep Kc54 nin0
  have F83 := F29.keep Kc54 nin0
  have F84 := F30.keep Kc54 nin0
  have F85 := F31.keep Kc54
  have F86 := F32.keep Kc54 nin0
  have F87 := F33.keep Kc54 nin0
  have F88 := F34.keep Kc54 nin0
  have F89 := F35.keep Kc54
  have F90 := F36.keep Kc54 nin0
  have F91 := F37.keep Kc54 nin0
  have F92 := F38.keep Kc54 nin0
  have F93 := F39.keep Kc54 nin0
  have F94 := F40.keep Kc54 nin0
  have F95 := F41.keep Kc54 nin0
  have F96 := own_stakeep F42 Kc54 all0
  have F97 := F43.keep Kc54
  have F98 := F44.keep Kc54 nin0
  have F99 := F45.keep Kc54 nin0
  have F100 := F46.keep Kc54 nin0
  have F101 := G1_0.keep Kc54 nin0
  have F102 := G1_1.keep Kc54
  have N54 := Fr.app N53 N54q
  have k103 : ∀ t, Steps p.tables e below (T54.setTop (mkF m 36 #[.val (.ref a15_0), .val (.ref v5_1), .val (.int (3 : Int32)), .val (.int (1 : Int32)), .val (.ref u_THROUGHPUT)] [(.ref r9_54)])) t → Steps p.tables e below (s₁.setTop (entryFrame m #[(.ref a15_0)] 5)) t := by
    intro t k
    refine pre0 t ?_
    refine st1 _ ?_
    refine XS.astoreN X1.here hx rfl (hb hby d15_3) rfl rfl (l' := #[.val (.ref a15_0), .val (.ref v5_1), .unset, .unset, .unset]) rfl ?_
    refine XS.aloadN X1.here hx rfl (hb hby d15_4) rfl rfl ?_
    refine X1.arraylength hx Ar47.1 (State.isArrayOf_alike hZ.alike Ar47.2.1) (g := (mkF m 5 #[.val (.ref a15_0), .val (.ref v5_1), .unset, .unset, .unset] [(.ref v5_1)])) rfl rfl (hb hby d15_5) _ ?_
    rw [len_of Sz47 Nn47]
    refine XS.istoreN X1.here hx rfl (hb hby d15_6) rfl (l' := #[.val (.ref a15_0), .val (.ref v5_1), .val (.int (3 : Int32)), .unset, .unset]) rfl ?_
    refine XS.iconst X1.here hx rfl (hb hby d15_7) ?_
    refine XS.istoreN X1.here hx rfl (hb hby d15_8) rfl (l' := #[.val (.ref a15_0), .val (.ref v5_1), .val (.int (3 : Int32)), .val (.int (0 : Int32)), .unset]) rfl ?_
    refine XS.iloadN X1.here hx rfl (hb hby d15_9) rfl ?_
    refine XS.iloadN X1.here hx rfl (hb hby d15_10) rfl ?_
    refine XS.icmpNo X1.here hx rfl (hb hby d15_11) rfl (tlt (by decide : (0 : Int32) < (3 : Int32))).2.1 ?_
    refine XS.aloadN X1.here hx rfl (hb hby d15_14) rfl rfl ?_
    refine XS.iloadN X1.here hx rfl (hb hby d15_15) rfl ?_
    refine X1.aaload hx (j := (0 : Int32)) (v := (.ref u_RESPONSE_TIME)) Ar48.1 (State.isArrayOf_alike hZ.alike Ar48.2.1) rfl Ar48.2.2 hin48 (Hh48.at hin48 rfl) (g := (mkF m 16 #[.val (.ref a15_0), .val (.ref v5_1), .val (.int (3 : Int32)), .val (.int (0 : Int32)), .unset] [(.int (0 : Int32)), (.ref v5_1)])) rfl rfl (hb hby d15_16) _ ?_
    refine XS.astore X1.here hx rfl (hb hby d15_17) rfl rfl (l' := #[.val (.ref a15_0), .val (.ref v5_1), .val (.int (3 : Int32)), .val (.int (0 : Int32)), .val (.ref u_RESPONSE_TIME)]) rfl ?_
    refine XS.aload X1.here hx rfl (hb hby d15_19) rfl rfl ?_
    refine st49 _ ?_
    refine XS.aloadN X49.here hx rfl (hb hby d15_24) rfl rfl ?_
    show Steps p.tables e below (T49.setTop (mkF m 25 #[.val (.ref a15_0), .val (.ref v5_1), .val (.int (3 : Int32)), .val (.int (0 : Int32)), .val (.ref u_RESPONSE_TIME)] [(.ref a15_0), (.ref u_RESPONSE_TIME_column)])) _
    refine st50.trans ?_
    refine XS.ifYes X50.here hx rfl (pc0 := 28) (pc' := 37) rfl (hb hby d15_28) rfl ((if0 _ _).trans (teq (by decide : (0 : Int32) = (0 : Int32))).1) (by decide) (by decide) ?_
    refine XS.iinc X50.here hx rfl (hb hby d15_37) rfl (l' := #[.val (.ref a15_0), .val (.ref v5_1), .val (.int (3 : Int32)), .val (.int (1 : Int32)), .val (.ref u_RESPONSE_TIME)]) rfl ?_
    refine XS.goto X50.here hx rfl (pc0 := 40) (pc' := 9) rfl (hb hby d15_40) (by decide) (by decide) ?_
    refine XS.iloadN X50.here hx rfl (hb hby d15_9) rfl ?_
    refine XS.iloadN X50.here hx rfl (hb hby d15_10) rfl ?_
    refine XS.icmpNo X50.here hx rfl (hb hby d15_11) rfl (tlt (by decide : (1 : Int32) < (3 : Int32))).2.1 ?_
    refine XS.aloadN X50.here hx rfl (hb hby d15_14) rfl rfl ?_
    refine XS.iloadN X50.here hx rfl (hb hby d15_15) rfl ?_
    refine X50.aaload hx (j := (1 : Int32)) (v := (.ref u_THROUGHPUT)) (by rw [eh50]; exact Ar51.1) (State.isArrayOf_alike hZ.alike Ar51.2.1) rfl Ar51.2.2 hin51 (Hh51.at hin51 rfl) (g := (mkF m 16 #[.val (.ref a15_0), .val (.ref v5_1), .val (.int (3 : Int32)), .val (.int (1 : Int32)), .val (.ref u_RESPONSE_TIME)] [(.int (1 : Int32)), (.ref v5_1)])) rfl rfl (hb hby d15_16) _ ?_
    refine XS.astore X50.here hx rfl (hb hby d15_17) rfl rfl (l' := #[.val (.ref a15_0), .val (.ref v5_1), .val (.int (3 : Int32)), .val (.int (1 : Int32)), .val (.ref u_THROUGHPUT)]) rfl ?_
    refine XS.aload X50.here hx rfl (hb hby d15_19) rfl rfl ?_
    refine st52 _ ?_
    refine XS.aloadN X52.here hx rfl (hb hby d15_24) rfl rfl ?_
    refine st53.trans ?_
    refine XS.ifNo X53.here hx rfl (hb hby d15_28) rfl ((if0 _ _).trans (feq (by decide : ¬ ((1 : Int32) = (0 : Int32)))).1) ?_
    refine XS.aload X53.here hx rfl (hb hby d15_31) rfl rfl ?_
    refine st54 _ ?_
    exact k
  obtain ⟨fs, hr, hrun, hended, hW, hsame⟩ := X54.leave (v := some (.ref r9_54)) (fun h => by rw [Bd.returns] at h; cases h)
  refine ⟨_, _, k103 _ ?_, hrun, hended, _, _, rfl, ?_, ⟨_, rfl⟩, hW, hsame.mono (by decide) (by decide)⟩
  · exact retOut X54 hx Bd.returns rfl (Or.inr (Or.inr (Or.inr (Or.inr ⟨rfl, rfl, rfl⟩)))) (hb hby d15_36) hr
  · show Q15 Z a15_0 u_EMPTY u__VALUES cl_u__VALUES u_RESPONSE_TIME u_THROUGHPUT u_COST u_RESPONSE_TIME_column u_RESPONSE_TIME_column_value cl_u_RESPONSE_TIME_column_value u_THROUGHPUT_column u_THROUGHPUT_column_value cl_u_THROUGHPUT_column_value u_COST_column u_COST_column_value cl_u_COST_column_value cs ta kt nz la h0 n0 _ T54.heap _
    exact ⟨r9_54, rfl, N54, K54, ggr9_54, szzr9_54, G54_0, G54_1⟩
theorem d16_0 : decode prog_22_method_5_code 0 = .ok (.invokestatic 36, 3) := by decide +kernel
theorem d16_3 : decode prog_22_method_5_code 3 = .ok (.astore_n 1, 1) := by decide +kernel
theorem d16_4 : decode prog_22_method_5_code 4 = .ok (.aload_n 1, 1) := by decide +kernel
theorem d16_5 : decode prog_22_method_5_code 5 = .ok (.arraylength, 1) := by decide +kernel
theorem d16_6 : decode prog_22_method_5_code 6 = .ok (.istore_n 2, 1) := by decide +kernel
theorem d16_7 : decode prog_22_method_5_code 7 = .ok (.iconst 0, 1) := by decide +kernel
theorem d16_8 : decode prog_22_method_5_code 8 = .ok (.istore_n 3, 1) := by decide +kernel
theorem d16_9 : decode prog_22_method_5_code 9 = .ok (.iload_n 3, 1) := by decide +kernel
theorem d16_10 : decode prog_22_method_5_code 10 = .ok (.iload_n 2, 1) := by decide +kernel
theorem d16_11 : decode prog_22_method_5_code 11 = .ok (.if_icmp .ge 32, 3) := by decide +kernel
theorem d16_14 : decode prog_22_method_5_code 14 = .ok (.aload_n 1, 1) := by decide +kernel
theorem d16_15 : decode prog_22_method_5_code 15 = .ok (.iload_n 3, 1) := by decide +kernel
theorem d16_16 : decode prog_22_method_5_code 16 = .ok (.aaload, 1) := by decide +kernel
theorem d16_17 : decode prog_22_method_5_code 17 = .ok (.astore 4, 2) := by decide +kernel
theorem d16_19 : decode prog_22_method_5_code 19 = .ok (.aload 4, 2) := by decide +kernel
theorem d16_21 : decode prog_22_method_5_code 21 = .ok (.getfield 32, 3) := by decide +kernel
theorem d16_24 : decode prog_22_method_5_code 24 = .ok (.aload_n 0, 1) := by decide +kernel
theorem d16_25 : decode prog_22_method_5_code 25 = .ok (.invokevirtual 40, 3) := by decide +kernel
theorem d16_28 : decode prog_22_method_5_code 28 = .ok (.ifCond .eq 9, 3) := by decide +kernel
theorem d16_31 : decode prog_22_method_5_code 31 = .ok (.aload 4, 2) := by decide +kernel
theorem d16_33 : decode prog_22_method_5_code 33 = .ok (.invokestatic 46, 3) := by decide +kernel
theorem d16_36 : decode prog_22_method_5_code 36 = .ok (.areturn, 1) := by decide +kernel
theorem d16_37 : decode prog_22_method_5_code 37 = .ok (.iinc 3 1, 3) := by decide +kernel
theorem d16_40 : decode prog_22_method_5_code 40 = .ok (.goto (-31), 3) := by decide +kernel
theorem ef_16 (m : MethodId) (a16_0 : Addr) : entryFrame m #[(.ref a16_0)] 5 = mkF m 0 #[.val (.ref a16_0), .unset, .unset, .unset, .unset] [] := by first | (simp [entryFrame, mkF, argsToLocals, Value.category]; done) | rfl
def Q16 (Z : State) (a16_0 : Addr) (u_EMPTY : Addr) (u__VALUES : Addr) (cl_u__VALUES : Cell) (u_RESPONSE_TIME : Addr) (u_THROUGHPUT : Addr) (u_COST : Addr) (u_RESPONSE_TIME_column : Addr) (u_RESPONSE_TIME_column_value : Addr) (cl_u_RESPONSE_TIME_column_value : Cell) (u_THROUGHPUT_column : Addr) (u_THROUGHPUT_column_value : Addr) (cl_u_THROUGHPUT_column_value : Cell) (u_COST_column : Addr) (u_COST_column_value : Addr) (cl_u_COST_column_value : Cell) (cs : Int32) (ta : Addr) (kt : ClassId) (nz : Int32) (la : List Int32) (h0 : Heap) (n0 : Nat) (v : Option Value) (h : Heap) (L : List Loc) : Prop := ∃ ro : Addr, v = some (.ref ro) ∧ Fr n0 L ∧ Keep h0 h [] ∧ n0 ≤ ro ∧ h0.size ≤ ro ∧ Exa Z h ro "java/util/Optional" ∧ Fld Z h ro "java/util/Optional" "value" "Ljava/lang/Object;" (.ref u_COST)
set_option maxRecDepth 65536 in
set_option maxHeartbeats 40000000 in
theorem rm16 (l : Launch) (Z : State) (a0 : Array Value) (hw : ∀ d ∈ tables_1, d.before a0 Z = true) (ws : List Jvm.Cond) (a16_0 : Addr) (u_EMPTY : Addr) (u__VALUES : Addr) (cl_u__VALUES : Cell) (u_RESPONSE_TIME : Addr) (u_THROUGHPUT : Addr) (u_COST : Addr) (u_RESPONSE_TIME_column : Addr) (u_RESPONSE_TIME_column_value : Addr) (cl_u_RESPONSE_TIME_column_value : Cell) (u_THROUGHPUT_column : Addr) (u_THROUGHPUT_column_value : Addr) (cl_u_THROUGHPUT_column_value : Cell) (u_COST_column : Addr) (u_COST_column_value : Addr) (cl_u_COST_column_value : Cell) (cs : Int32) (ta : Addr) (kt : ClassId) (nz : Int32) (la : List Int32) (h0 : Heap) (n0 : Nat) (Z0 : n0 ≤ h0.size) (S_EMPTY : Sta Z h0 "java/util/Optional" "EMPTY" "Ljava/util/Optional;" (.ref u_EMPTY)) (E_u_EMPTY : Exa Z h0 u_EMPTY "java/util/Optional") (F_u_EMPTY_value : Fld Z h0 u_EMPTY "java/util/Optional" "value" "Ljava/lang/Object;" .null) (S__VALUES : Sta Z h0 "com/example/leanweave/leanweave/QosMeasure" "$VALUES" "[Lcom/example/leanweave/leanweave/QosMeasure;" (.ref u__VALUES)) (E_u__VALUES : Exa Z h0 u__VALUES "[Lcom/example/leanweave/leanweave/QosMeasure;") (S_RESPONSE_TIME : Sta Z h0 "com/example/leanweave/leanweave/QosMeasure" "RESPONSE_TIME" "Lcom/example/leanweave/leanweave/QosMeasure;" (.ref u_RESPONSE_TIME)) (E_u_RESPONSE_TIME : Exa Z h0 u_RESPONSE_TIME "com/example/leanweave/leanweave/QosMeasure") (S_THROUGHPUT : Sta Z h0 "com/example/leanweave/leanweave/QosMeasure" "THROUGHPUT" "Lcom/example/leanweave/leanweave/QosMeasure;" (.ref u_THROUGHPUT)) (E_u_THROUGHPUT : Exa Z h0 u_THROUGHPUT "com/example/leanweave/leanweave/QosMeasure") (S_COST : Sta Z h0 "com/example/leanweave/leanweave/QosMeasure" "COST" "Lcom/example/leanweave/leanweave/QosMeasure;" (.ref u_COST)) (E_u_COST : Exa Z h0 u_COST "com/example/leanweave/leanweave/QosMeasure") (F_u_RESPONSE_TIME_column : Fld Z h0 u_RESPONSE_TIME "com/example/leanweave/leanweave/QosMeasure" "column" "Ljava/lang/String;" (.ref u_RESPONSE_TIME_column)) (E_u_RESPONSE_TIME_column : Exa Z h0 u_RESPONSE_TIME_column "java/lang/String") (F_u_RESPONSE_TIME_column_coder : Fld Z h0 u_RESPONSE_TIME_column "java/lang/String" "coder" "B" (.int (0 : Int32))) (F_u_RESPONSE_TIME_column_value : Fld Z h0 u_RESPONSE_TIME_column "java/lang/String" "value" "[B" (.ref u_RESPONSE_TIME_column_value)) (F_u_THROUGHPUT_column : Fld Z h0 u_THROUGHPUT "com/example/leanweave/leanweave/QosMeasure" "column" "Ljava/lang/String;" (.ref u_THROUGHPUT_column)) (E_u_THROUGHPUT_column : Exa Z h0 u_THROUGHPUT_column "java/lang/String") (F_u_THROUGHPUT_column_coder : Fld Z h0 u_THROUGHPUT_column "java/lang/String" "coder" "B" (.int (0 : Int32))) (F_u_THROUGHPUT_column_value : Fld Z h0 u_THROUGHPUT_column "java/lang/String" "value" "[B" (.ref u_THROUGHPUT_column_value)) (F_u_COST_column : Fld Z h0 u_COST "com/example/leanweave/leanweave/QosMeasure" "column" "Ljava/lang/String;" (.ref u_COST_column)) (E_u_COST_column : Exa Z h0 u_COST_column "java/lang/String") (F_u_COST_column_coder : Fld Z h0 u_COST_column "java/lang/String" "coder" "B" (.int (0 : Int32))) (F_u_COST_column_value : Fld Z h0 u_COST_column "java/lang/String" "value" "[B" (.ref u_COST_column_value)) (V_u__VALUES : Arv Z h0 u__VALUES cl_u__VALUES.cls (.object "com/example/leanweave/leanweave/QosMeasure") (3 : Int32) [(.ref u_RESPONSE_TIME), (.ref u_THROUGHPUT), (.ref u_COST)] .null) (V_u_RESPONSE_TIME_column_value : Arv Z h0 u_RESPONSE_TIME_column_value cl_u_RESPONSE_TIME_column_value.cls .byte (16 : Int32) [(.int (114 : Int32)), (.int (101 : Int32)), (.int (115 : Int32)), (.int (112 : Int32)), (.int (111 : Int32)), (.int (110 : Int32)), (.int (115 : Int32)), (.int (101 : Int32)), (.int (95 : Int32)), (.int (116 : Int32)), (.int (105 : Int32)), (.int (109 : Int32)), (.int (101 : Int32)), (.int (95 : Int32)), (.int (109 : Int32)), (.int (115 : Int32))] (.int (0 : Int32))) (V_u_THROUGHPUT_column_value : Arv Z h0 u_THROUGHPUT_column_value cl_u_THROUGHPUT_column_value.cls .byte (16 : Int32) [(.int (116 : Int32)), (.int (104 : Int32)), (.int (114 : Int32)), (.int (111 : Int32)), (.int (117 : Int32)), (.int (103 : Int32)), (.int (104 : Int32)), (.int (112 : Int32)), (.int (117 : Int32)), (.int (116 : Int32)), (.int (95 : Int32)), (.int (112 : Int32)), (.int (101 : Int32)), (.int (114 : Int32)), (.int (95 : Int32)), (.int (115 : Int32))] (.int (0 : Int32))) (V_u_COST_column_value : Arv Z h0 u_COST_column_value cl_u_COST_column_value.cls .byte (4 : Int32) [(.int (99 : Int32)), (.int (111 : Int32)), (.int (115 : Int32)), (.int (116 : Int32))] (.int (0 : Int32))) (Sc : Sta Z h0 "java/lang/String" "COMPACT_STRINGS" "Z" (.int cs)) (Es : Exa Z h0 a16_0 "java/lang/String") (Fs : Fld Z h0 a16_0 "java/lang/String" "value" "[B" (.ref ta)) (Fz : Fld Z h0 a16_0 "java/lang/String" "coder" "B" (.int (0 : Int32))) (Vs : Arv Z h0 ta kt .byte nz (List.map Value.int (List.map (fun c => c.toInt8.toInt32) la)) (.int (0 : Int32))) (hcs : ¬ (cs = (0 : Int32))) (hnz : nz = Int32.ofNat la.length) (hb_la : ∀ c ∈ la, ¬ c < 0 ∧ ¬ (255 : Int32) < c) (hl_la : la.length ≤ 4000) (hnR : ¬ (la = own_LR)) (hnT : ¬ (la = own_LT)) (hyC : la = own_LC) :
    MetFree l (⟨"com/example/leanweave/leanweave/QosMeasure", "ofColumn", "(Ljava/lang/String;)Ljava/util/Optional;"⟩ : MethodName) (head1 (Jvm.Cond.code (⟨"com/example/leanweave/leanweave/QosMeasure", "ofColumn", "(Ljava/lang/String;)Ljava/util/Optional;"⟩ : MethodName) prog_22_method_5_code 5 (some (.object "java/util/Optional")) :: ws) ({ frames := 3, cells := 2, slots := 4, locals := 38 } : Room)) (fun a U => a = #[(.ref a16_0)] ∧ Z.Warmed39 U.vm ∧ U.heap = h0) (fun _ _ _ _ _ => True) (fun _ U o U' => ∃ v L, o = .returned v ∧ Q16 Z a16_0 u_EMPTY u__VALUES cl_u__VALUES u_RESPONSE_TIME u_THROUGHPUT u_COST u_RESPONSE_TIME_column u_RESPONSE_TIME_column_value cl_u_RESPONSE_TIME_column_value u_THROUGHPUT_column u_THROUGHPUT_column_value cl_u_THROUGHPUT_column_value u_COST_column u_COST_column_value cl_u_COST_column_value cs ta kt nz la h0 n0 v U'.heap L ∧ FrameEnd U o U' L ({ frames := 3, cells := 2, slots := 4, locals := 38 } : Room).cells ({ frames := 3, cells := 2, slots := 4, locals := 38 } : Room).slots) := by
  refine MetFree.of_bodySF (plainFor_of_name pn_2) hisR ?_
  intro p e s m args below meth c s₁ Bd hml0 hP hK
  obtain ⟨rfl, hZ, hh⟩ := hP
  have hx := Bd.exec
  have hby := Bd.bytes
  have hml : c.maxLocals = 5 := hml0
  have hown : s.vm.findClass "com/example/leanweave/leanweave/QosMeasure" = some m.cls := findClass_of_methodNamed Bd.named
  have hnm := (name_of_methodNamed Bd.named Bd.method).1
  have X0 : Stand p l e ({ frames := 3, cells := 2, slots := 4, locals := 38 } : Room) s m #[(.ref a16_0)] below meth c s₁ [] 0 0 := Stand.of_body Bd
  have e0 : s₁.heap = h0 := by rw [← hh, Bd.state]; rfl
  have N0 := Fr.nil n0
  have pre0 : ∀ t, Steps p.tables e below (s₁.setTop (mkF m 0 #[.val (.ref a16_0), .unset, .unset, .unset, .unset] [])) t → Steps p.tables e below (s₁.setTop (entryFrame m #[(.ref a16_0)] 5)) t := fun t k => castTop (ef_16 m a16_0) k
  obtain ⟨_, _, ⟨T1, L1, k1, n1⟩, -, X1, ⟨Lc1, hQ1, l1, y1, z1⟩, st1⟩ := Jvm.LawKit.callS X0 hx (y := (⟨"com/example/leanweave/leanweave/QosMeasure", "values", "()[Lcom/example/leanweave/leanweave/QosMeasure;"⟩ : MethodName)) hown (mvT hZ (wd hw 77 rfl)) (mvT hZ (wd hw 78 rfl)) (mvT hZ (wd hw 75 rfl)) (mvT hZ (wd hw 79 rfl)) (by decide) (backOf (W := 0) (rm5 l Z a0 hw [] u__VALUES cl_u__VALUES u_RESPONSE_TIME u_THROUGHPUT u_COST h0 n0 Z0 S__VALUES E_u__VALUES V_u__VALUES) hZ (wd hw 79 rfl) (wd hw 75 rfl) (by decide) (by decide)) (g := (mkF m 0 #[.val (.ref a16_0), .unset, .unset, .unset, .unset] [])) rfl (by rw [hml]; rfl) (argsL := []) (rest := []) (lenOf pd_6 rfl) rfl (by show 2 * 0 + _ ≤ _; exact Nat.le_of_eq rfl) (hb hby d16_0) (fun _ _ => ⟨rfl, e0, (by decide : 0 + 1 ≤ _), (by decide : 0 + 3 ≤ _)⟩)
  dsimp only [Pt.U, Pt.locs, Pt.cells, Pt.slots] at X1 l1 y1 z1 st1 hQ1
  rw [l1, y1, z1] at X1
  obtain ⟨v5_1, rfl, N1q, Kc1, ggv5_1, szv5_1, G1_0, G1_1⟩ := hQ1
  have ne2 : u_EMPTY ≠ v5_1 := Nat.ne_of_lt (Nat.lt_of_lt_of_le E_u_EMPTY.lt szv5_1)
  have ne3 : u__VALUES ≠ v5_1 := Nat.ne_of_lt (Nat.lt_of_lt_of_le E_u__VALUES.lt szv5_1)
  have ne4 : u_RESPONSE_TIME ≠ v5_1 := Nat.ne_of_lt (Nat.lt_of_lt_of_le E_u_RESPONSE_TIME.lt szv5_1)
  have ne5 : u_THROUGHPUT ≠ v5_1 := Nat.ne_of_lt (Nat.lt_of_lt_of_le E_u_THROUGHPUT.lt szv5_1)
  have ne6 : u_COST ≠ v5_1 := Nat.ne_of_lt (Nat.lt_of_lt_of_le E_u_COST.lt szv5_1)
  have ne7 : u_RESPONSE_TIME_column ≠ v5_1 := Nat.ne_of_lt (Nat.lt_of_lt_of_le E_u_RESPONSE_TIME_column.lt szv5_1)
  have ne8 : u_THROUGHPUT_column ≠ v5_1 := Nat.ne_of_lt (Nat.lt_of_lt_of_le E_u_THROUGHPUT_column.lt szv5_1)
  have ne9 : u_COST_column ≠ v5_1 := Nat.ne_of_lt (Nat.lt_of_lt_of_le E_u_COST_column.lt szv5_1)
  have ne10 : u_RESPONSE_TIME_column_value ≠ v5_1 := Nat.ne_of_lt (Nat.lt_of_lt_of_le V_u_RESPONSE_TIME_column_value.lt szv5_1)
  have ne11 : u_THROUGHPUT_column_value ≠ v5_1 := Nat.ne_of_lt (Nat.lt_of_lt_of_le V_u_THROUGHPUT_column_value.lt szv5_1)
  have ne12 : u_COST_column_value ≠ v5_1 := Nat.ne_of_lt (Nat.lt_of_lt_of_le V_u_COST_column_value.lt szv5_1)
  have ne13 : a16_0 ≠ v5_1 := Nat.ne_of_lt (Nat.lt_of_lt_of_le Es.lt szv5_1)
  have ne14 : ta ≠ v5_1 := Nat.ne_of_lt (Nat.lt_of_lt_of_le Vs.lt szv5_1)
  have szzv5_1 : h0.size ≤ v5_1 := Nat.le_trans (Keep.refl h0 []).1 szv5_1
  have Zs1 : n0 ≤ T1.heap.size := Nat.le_trans Z0 Kc1.1
  have K1 : Keep h0 T1.heap [] := (Keep.refl h0 []).trans Kc1 all0
  have F15 := own_stakeep S_EMPTY Kc1 all0
  have F16 := E_u_EMPTY.keep Kc1
  have F17 := F_u_EMPTY_value.keep Kc1 nin0
  have F18 := own_stakeep S__VALUES Kc1 all0
  have F19 := E_u__VALUES.keep Kc1
  have F20 := own_stakeep S_RESPONSE_TIME Kc1 all0
  have F21 := E_u_RESPONSE_TIME.keep Kc1
  have F22 := own_stakeep S_THROUGHPUT Kc1 all0
  have F23 := E_u_THROUGHPUT.keep Kc1
  have F24 := own_stakeep S_COST Kc1 all0
  have F25 := E_u_COST.keep Kc1
  have F26 := F_u_RESPONSE_TIME_column.keep Kc1 nin0
  have F27 := E_u_RESPONSE_TIME_column.keep Kc1
  have F28 := F_u_RESPONSE_TIME_column_coder.keep Kc1 nin0
  have F29 := F_u_RESPONSE_TIME_column_value.keep Kc1 nin0
  have F30 := F_u_THROUGHPUT_column.keep Kc1 nin0
  have F31 := E_u_THROUGHPUT_column.keep Kc1
  have F32 := F_u_THROUGHPUT_column_coder.keep Kc1 nin0
  have F33 := F_u_THROUGHPUT_column_value.keep Kc1 nin0
  have F34 := F_u_COST_column.keep Kc1 nin0
  have F35 := E_u_COST_column.keep Kc1
  have F36 := F_u_COST_column_coder.keep Kc1 nin0
  have F37 := F_u_COST_column_value.keep Kc1 nin0
  have F38 := V_u__VALUES.keep Kc1 nin0
  have F39 := V_u_RESPONSE_TIME_column_value.keep Kc1 nin0
  have F40 := V_u_THROUGHPUT_column_value.keep Kc1 nin0
  have F41 := V_u_COST_column_value.keep Kc1 nin0
  have F42 := own_stakeep Sc Kc1 all0
  have F43 := Es.keep Kc1
  have F44 := Fs.keep Kc1 nin0
  have F45 := Fz.keep Kc1 nin0
  have F46 := Vs.keep Kc1 nin0
  have N1 := Fr.app N0 N1q
  obtain ⟨cl47, Ar47, qc47, Sz47, Nn47, Hh47, Gg47⟩ := (id G1_0)
  obtain ⟨cl48, Ar48, qc48, Sz48, Nn48, Hh48, Gg48⟩ := (id G1_0)
  have hin48 : ¬ ((0 : Int32) < 0 ∨ cl48.slots.size ≤ ((0 : Int32)).toNatClampNeg) := inb_of Sz48 ⟨by decide, by decide⟩
  obtain ⟨T49, X49, e49, st49⟩ := getF X1 hx hZ hown (host := "") (Or.inl (wd hw 95 rfl)) Via.refl rfl F26 (g := (mkF m 21 #[.val (.ref a16_0), .val (.ref v5_1), .val (.int (3 : Int32)), .val (.int (0 : Int32)), .val (.ref u_RESPONSE_TIME)] [(.ref u_RESPONSE_TIME)])) rfl rfl (hb hby d16_21)
  obtain ⟨cq50, kq50, q50a, q50b, q50c⟩ := isOf hZ e49 F27
  obtain ⟨_, _, ⟨T50, L50, k50, n50⟩, -, X50, ⟨Lc50, hQ50, l50, y50, z50⟩, st50⟩ := X49.virtualBack hx (y := (⟨"java/lang/String", "equals", "(Ljava/lang/Object;)Z"⟩ : MethodName)) (z := (⟨"java/lang/String", "equals", "(Ljava/lang/Object;)Z"⟩ : MethodName)) hown (mvT hZ (wd hw 97 rfl)) (mvT hZ (wd hw 98 rfl)) (notFace_of_selects (args := #[]) (mvT hZ (wd hw 100 rfl))) (mvT hZ (wd hw 100 rfl)) (mvT hZ (wd hw 99 rfl)) (by decide) (StrChars.Road.eqW (W := 0) hZ (fun d hd => hw d (own_sub_eqW d hd)) (kI := 4) (wd hw 3 rfl) (cs := own_LR) F27 F29 F28 F39 own_codR own_bdR (by decide) (ds := la) F43 F44 F45 F46 (own_codG hnz hb_la) (own_u16 hb_la) hl_la F42 hcs (by decide) (by decide)) q50a q50c (g := (mkF m 25 #[.val (.ref a16_0), .val (.ref v5_1), .val (.int (3 : Int32)), .val (.int (0 : Int32)), .val (.ref u_RESPONSE_TIME)] [(.ref a16_0), (.ref u_RESPONSE_TIME_column)])) rfl (by rw [hml]; rfl) (Steps.refl _) (argsL := [(.ref a16_0)]) (rest := []) (lenOf pd_7 rfl) rfl (by show 2 * 0 + _ ≤ _; exact Nat.le_of_eq rfl) (hb hby d16_25) (fun _ _ => ⟨rfl, e49, (by decide : 1 + 0 ≤ _), (by decide : 3 + 0 ≤ _)⟩)
  dsimp only [Pt.U, Pt.locs, Pt.cells, Pt.slots] at X50 l50 y50 z50 st50 hQ50
  rw [l50, y50, z50] at X50
  obtain ⟨hor50, rfl, eh50⟩ := hQ50
  have N50 := Fr.app N1 (Fr.nil n0)
  have hov50 := own_orF hor50 (fun q => hnR q.symm)
  subst hov50
  obtain ⟨cl51, Ar51, qc51, Sz51, Nn51, Hh51, Gg51⟩ := (id G1_0)
  have hin51 : ¬ ((1 : Int32) < 0 ∨ cl51.slots.size ≤ ((1 : Int32)).toNatClampNeg) := inb_of Sz51 ⟨by decide, by decide⟩
  obtain ⟨T52, X52, e52, st52⟩ := getF X50 hx hZ hown (host := "") (Or.inl (wd hw 95 rfl)) Via.refl eh50 F30 (g := (mkF m 21 #[.val (.ref a16_0), .val (.ref v5_1), .val (.int (3 : Int32)), .val (.int (1 : Int32)), .val (.ref u_THROUGHPUT)] [(.ref u_THROUGHPUT)])) rfl rfl (hb hby d16_21)
  obtain ⟨cq53, kq53, q53a, q53b, q53c⟩ := isOf hZ e52 F31
  obtain ⟨_, _, ⟨T53, L53, k53, n53⟩, -, X53, ⟨Lc53, hQ53, l53, y53, z53⟩, st53⟩ := X52.virtualBack hx (y := (⟨"java/lang/String", "equals", "(Ljava/lang/Object;)Z"⟩ : MethodName)) (z := (⟨"java/lang/String", "equals", "(Ljava/lang/Object;)Z"⟩ : MethodName)) hown (mvT hZ (wd hw 97 rfl)) (mvT hZ (wd hw 98 rfl)) (notFace_of_selects (args := #[]) (mvT hZ (wd hw 100 rfl))) (mvT hZ (wd hw 100 rfl)) (mvT hZ (wd hw 99 rfl)) (by decide) (StrChars.Road.eqW (W := 0) hZ (fun d hd => hw d (own_sub_eqW d hd)) (kI := 4) (wd hw 3 rfl) (cs := own_LT) F31 F33 F32 F40 own_codT own_bdT (by decide) (ds := la) F43 F44 F45 F46 (own_codG hnz hb_la) (own_u16 hb_la) hl_la F42 hcs (by decide) (by decide)) q53a q53c (g := (mkF m 25 #[.val (.ref a16_0), .val (.ref v5_1), .val (.int (3 : Int32)), .val (.int (1 : Int32)), .val (.ref u_THROUGHPUT)] [(.ref a16_0), (.ref u_THROUGHPUT_column)])) rfl (by rw [hml]; rfl) (Steps.refl _) (argsL := [(.ref a16_0)]) (rest := []) (lenOf pd_7 rfl) rfl (by show 2 * 0 + _ ≤ _; exact Nat.le_of_eq rfl) (hb hby d16_25) (fun _ _ => ⟨rfl, e52, (by decide : 1 + 0 ≤ _), (by decide : 3 + 0 ≤ _)⟩)
  dsimp only [Pt.U, Pt.locs, Pt.cells, Pt.slots] at X53 l53 y53 z53 st53 hQ53
  rw [l53, y53, z53] at X53
  obtain ⟨hor53, rfl, eh53⟩ := hQ53
  have N53 := Fr.app N50 (Fr.nil n0)
  have hov53 := own_orF hor53 (fun q => hnT q.symm)
  subst hov53
  obtain ⟨cl54, Ar54, qc54, Sz54, Nn54, Hh54, Gg54⟩ := (id G1_0)
  have hin54 : ¬ ((2 : Int32) < 0 ∨ cl54.slots.size ≤ ((2 : Int32)).toNatClampNeg) := inb_of Sz54 ⟨by decide, by decide⟩
  obtain ⟨T55, X55, e55, st55⟩ := getF X53 hx hZ hown (host := "") (Or.inl (wd hw 95 rfl)) Via.refl eh53 F34 (g := (mkF m 21 #[.val (.ref a16_0), .val (.ref v5_1), .val (.int (3 : Int32)), .val (.int (2 : Int32)), .val (.ref u_COST)] [(.ref u_COST)])) rfl rfl (hb hby d16_21)
  obtain ⟨cq56, kq56, q56a, q56b, q56c⟩ := isOf hZ e55 F35
  obtain ⟨_, _, ⟨T56, L56, k56, n56⟩, -, X56, ⟨Lc56, hQ56, l56, y56, z56⟩, st56⟩ := X55.virtualBack hx (y := (⟨"java/lang/String", "equals", "(Ljava/lang/Object;)Z"⟩ : MethodName)) (z := (⟨"java/lang/String", "equals", "(Ljava/lang/Object;)Z"⟩ : MethodName)) hown (mvT hZ (wd hw 97 rfl)) (mvT hZ (wd hw 98 rfl)) (notFace_of_selects (args := #[]) (mvT hZ (wd hw 100 rfl))) (mvT hZ (wd hw 100 rfl)) (mvT hZ (wd hw 99 rfl)) (by decide) (StrChars.Road.eqW (W := 0) hZ (fun d hd => hw d (own_sub_eqW d hd)) (kI := 4) (wd hw 3 rfl) (cs := own_LC) F35 F37 F36 F41 own_codC own_bdC (by decide) (ds := la) F43 F44 F45 F46 (own_codG hnz hb_la) (own_u16 hb_la) hl_la F42 hcs (by decide) (by decide)) q56a q56c (g := (mkF m 25 #[.val (.ref a16_0), .val (.ref v5_1), .val (.int (3 : Int32)), .val (.int (2 : Int32)), .val (.ref u_COST)] [(.ref a16_0), (.ref u_COST_column)])) rfl (by rw [hml]; rfl) (Steps.refl _) (argsL := [(.ref a16_0)]) (rest := []) (lenOf pd_7 rfl) rfl (by show 2 * 0 + _ ≤ _; exact Nat.le_of_eq rfl) (hb hby d16_25) (fun _ _ => ⟨rfl, e55, (by decide : 1 + 0 ≤ _), (by decide : 3 + 0 ≤ _)⟩)
  dsimp only [Pt.U, Pt.locs, Pt.cells, Pt.slots] at X56 l56 y56 z56 st56 hQ56
  rw [l56, y56, z56] at X56
  obtain ⟨hor56, rfl, eh56⟩ := hQ56
  have N56 := Fr.app N53 (Fr.nil n0)
  have hov56 := own_orT hor56 (Eq.symm hyC)
  subst hov56
  obtain ⟨_, _, ⟨T57, L57, k57, n57⟩, -, X57, ⟨Lc57, hQ57, l57, y57, z57⟩, st57⟩ := Jvm.LawKit.callS X56 hx (y := (⟨"java/util/Optional", "of", "(Ljava/lang/Object;)Ljava/util/Optional;"⟩ : MethodName)) hown (mvT hZ (wd hw 124 rfl)) (mvT hZ (wd hw 125 rfl)) (mvT hZ (wd hw 108 rfl)) (mvT hZ (wd hw 126 rfl)) (by decide) (backOf (W := 0) (rm9 l Z a0 hw [] u_COST T1.heap n0 Zs1 ) hZ (wd hw 126 rfl) (wd hw 108 rfl) (by decide) (by decide)) (g := (mkF m 33 #[.val (.ref a16_0), .val (.ref v5_1), .val (.int (3 : Int32)), .val (.int (2 : Int32)), .val (.ref u_COST)] [(.ref u_COST)])) rfl (by rw [hml]; rfl) (argsL := [(.ref u_COST)]) (rest := []) (lenOf pd_8 rfl) rfl (by show 2 * 0 + _ ≤ _; exact Nat.le_of_eq rfl) (hb hby d16_33) (fun _ _ => ⟨rfl, eh56, (by decide : 1 + 1 ≤ _), (by decide : 3 + 1 ≤ _)⟩)
  dsimp only [Pt.U, Pt.locs, Pt.cells, Pt.slots] at X57 l57 y57 z57 st57 hQ57
  rw [l57, y57, z57] at X57
  obtain ⟨r9_57, rfl, N57q, Kc57, ggr9_57, szr9_57, G57_0, G57_1⟩ := hQ57
  have ne58 : u_EMPTY ≠ r9_57 := Nat.ne_of_lt (Nat.lt_of_lt_of_le F16.lt szr9_57)
  have ne59 : u__VALUES ≠ r9_57 := Nat.ne_of_lt (Nat.lt_of_lt_of_le F19.lt szr9_57)
  have ne60 : u_RESPONSE_TIME ≠ r9_57 := Nat.ne_of_lt (Nat.lt_of_lt_of_le F21.lt szr9_57)
  have ne61 : u_THROUGHPUT ≠ r9_57 := Nat.ne_of_lt (Nat.lt_of_lt_of_le F23.lt szr9_57)
  have ne62 : u_COST ≠ r9_57 := Nat.ne_of_lt (Nat.lt_of_lt_of_le F25.lt szr9_57)
  have ne63 : u_RESPONSE_TIME_column ≠ r9_57 := Nat.ne_of_lt (Nat.lt_of_lt_of_le F27.lt szr9_57)
  have ne64 : u_THROUGHPUT_column ≠ r9_57 := Nat.ne_of_lt (Nat.lt_of_lt_of_le F31.lt szr9_57)
  have ne65 : u_COST_column ≠ r9_57 := Nat.ne_of_lt (Nat.lt_of_lt_of_le F35.lt szr9_57)
  have ne66 : u_RESPONSE_TIME_column_value ≠ r9_57 := Nat.ne_of_lt (Nat.lt_of_lt_of_le F39.lt szr9_57)
  have ne67 : u_THROUGHPUT_column_value ≠ r9_57 := Nat.ne_of_lt (Nat.lt_of_lt_of_le F40.lt szr9_57)
  have ne68 : u_COST_column_value ≠ r9_57 := Nat.ne_of_lt (Nat.lt_of_lt_of_le F41.lt szr9_57)
  have ne69 : a16_0 ≠ r9_57 := Nat.ne_of_lt (Nat.lt_of_lt_of_le F43.lt szr9_57)
  have ne70 : ta ≠ r9_57 := Nat.ne_of_lt (Nat.lt_of_lt_of_le F46.lt szr9_57)
  have ne71 : v5_1 ≠ r9_57 := Nat.ne_of_lt (Nat.lt_of_lt_of_le G1_0.lt szr9_57)
  have szzr9_57 : h0.size ≤ r9_57 := Nat.le_trans K1.1 szr9_57
  have Zs57 : n0 ≤ T57.heap.size := Nat.le_trans Zs1 Kc57.1
  have K57 : Keep h0 T57.heap [] := K1.trans Kc57 all0
  have F72 := own_stakeep F15 Kc57 all0
  have F73 := F16.keep Kc57
  have F74 := F17.keep Kc57 nin0
  have F75 := own_stakeep F18 Kc57 all0
  have F76 := F19.keep Kc57
  have F77 := own_stakeep F20 Kc57 all0
  have F78 := F21.keep Kc57
  have F79 := own_stakeep F22 Kc57 all0
  have F80 := F23.keep Kc57
  have F81 := own_stakeep F24 Kc57 all0
  have F82 := F25.keep Kc57
  have F83 := F26.keep Kc57 nin0
  have F84 := F27.keep Kc57
  have F85 := F28.keep Kc57 nin0
  have F86 := F29.keep Kc57 nin0
  have F87 := F30.keep Kc57 nin0
  have F88 := F31.keep Kc57
  have F89 := F32.keep Kc57 nin0
  have F90 := F33.keep Kc57 nin0
  have F91 := F34.keep Kc57 nin0
  have F92 := F35.keep Kc57
  have F93 := F36.keep Kc57 nin0
  have F94 := F37.keep Kc57 nin0
  have F95 := F38.keep Kc57 nin0
  have F96 := F39.keep Kc57 nin0
  have F97 := F40.keep Kc57 nin0
  have F98 := F41.keep Kc57 nin0
  have F99 := own_stakeep F42 Kc57 all0
  have F100 := F43.keep Kc57
  have F101 := F44.keep Kc57 nin0
  have F102 := F45.keep Kc57 nin0
  have F103 := F46.keep Kc57 nin0
  have F104 := G1_0.keep Kc57 nin0
  have F105 := G1_1.keep Kc57
  have N57 := Fr.app N56 N57q
  have k106 : ∀ t, Steps p.tables e below (T57.setTop (mkF m 36 #[.val (.ref a16_0), .val (.ref v5_1), .val (.int (3 : Int32)), .val (.int (2 : Int32)), .val (.ref u_COST)] [(.ref r9_57)])) t → Steps p.tables e below (s₁.setTop (entryFrame m #[(.ref a16_0)] 5)) t := by
    intro t k
    refine pre0 t ?_
    refine st1 _ ?_
    refine XS.astoreN X1.here hx rfl (hb hby d16_3) rfl rfl (l' := #[.val (.ref a16_0), .val (.ref v5_1), .unset, .unset, .unset]) rfl ?_
    refine XS.aloadN X1.here hx rfl (hb hby d16_4) rfl rfl ?_
    refine X1.arraylength hx Ar47.1 (State.isArrayOf_alike hZ.alike Ar47.2.1) (g := (mkF m 5 #[.val (.ref a16_0), .val (.ref v5_1), .unset, .unset, .unset] [(.ref v5_1)])) rfl rfl (hb hby d16_5) _ ?_
    rw [len_of Sz47 Nn47]
    refine XS.istoreN X1.here hx rfl (hb hby d16_6) rfl (l' := #[.val (.ref a16_0), .val (.ref v5_1), .val (.int (3 : Int32)), .unset, .unset]) rfl ?_
    refine XS.iconst X1.here hx rfl (hb hby d16_7) ?_
    refine XS.istoreN X1.here hx rfl (hb hby d16_8) rfl (l' := #[.val (.ref a16_0), .val (.ref v5_1), .val (.int (3 : Int32)), .val (.int (0 : Int32)), .unset]) rfl ?_
    refine XS.iloadN X1.here hx rfl (hb hby d16_9) rfl ?_
    refine XS.iloadN X1.here hx rfl (hb hby d16_10) rfl ?_
    refine XS.icmpNo X1.here hx rfl (hb hby d16_11) rfl (tlt (by decide : (0 : Int32) < (3 : Int32))).2.1 ?_
    refine XS.aloadN X1.here hx rfl (hb hby d16_14) rfl rfl ?_
    refine XS.iloadN X1.here hx rfl (hb hby d16_15) rfl ?_
    refine X1.aaload hx (j := (0 : Int32)) (v := (.ref u_RESPONSE_TIME)) Ar48.1 (State.isArrayOf_alike hZ.alike Ar48.2.1) rfl Ar48.2.2 hin48 (Hh48.at hin48 rfl) (g := (mkF m 16 #[.val (.ref a16_0), .val (.ref v5_1), .val (.int (3 : Int32)), .val (.int (0 : Int32)), .unset] [(.int (0 : Int32)), (.ref v5_1)])) rfl rfl (hb hby d16_16) _ ?_
    refine XS.astore X1.here hx rfl (hb hby d16_17) rfl rfl (l' := #[.val (.ref a16_0), .val (.ref v5_1), .val (.int (3 : Int32)), .val (.int (0 : Int32)), .val (.ref u_RESPONSE_TIME)]) rfl ?_
    refine XS.aload X1.here hx rfl (hb hby d16_19) rfl rfl ?_
    refine st49 _ ?_
    refine XS.aloadN X49.here hx rfl (hb hby d16_24) rfl rfl ?_
    show Steps p.tables e below (T49.setTop (mkF m 25 #[.val (.ref a16_0), .val (.ref v5_1), .val (.int (3 : Int32)), .val (.int (0 : Int32)), .val (.ref u_RESPONSE_TIME)] [(.ref a16_0), (.ref u_RESPONSE_TIME_column)])) _
    refine st50.trans ?_
    refine XS.ifYes X50.here hx rfl (pc0 := 28) (pc' := 37) rfl (hb hby d16_28) rfl ((if0 _ _).trans (teq (by decide : (0 : Int32) = (0 : Int32))).1) (by decide) (by decide) ?_
    refine XS.iinc X50.here hx rfl (hb hby d16_37) rfl (l' := #[.val (.ref a16_0), .val (.ref v5_1), .val (.int (3 : Int32)), .val (.int (1 : Int32)), .val (.ref u_RESPONSE_TIME)]) rfl ?_
    refine XS.goto X50.here hx rfl (pc0 := 40) (pc' := 9) rfl (hb hby d16_40) (by decide) (by decide) ?_
    refine XS.iloadN X50.here hx rfl (hb hby d16_9) rfl ?_
    refine XS.iloadN X50.here hx rfl (hb hby d16_10) rfl ?_
    refine XS.icmpNo X50.here hx rfl (hb hby d16_11) rfl (tlt (by decide : (1 : Int32) < (3 : Int32))).2.1 ?_
    refine XS.aloadN X50.here hx rfl (hb hby d16_14) rfl rfl ?_
    refine XS.iloadN X50.here hx rfl (hb hby d16_15) rfl ?_
    refine X50.aaload hx (j := (1 : Int32)) (v := (.ref u_THROUGHPUT)) (by rw [eh50]; exact Ar51.1) (State.isArrayOf_alike hZ.alike Ar51.2.1) rfl Ar51.2.2 hin51 (Hh51.at hin51 rfl) (g := (mkF m 16 #[.val (.ref a16_0), .val (.ref v5_1), .val (.int (3 : Int32)), .val (.int (1 : Int32)), .val (.ref u_RESPONSE_TIME)] [(.int (1 : Int32)), (.ref v5_1)])) rfl rfl (hb hby d16_16) _ ?_
    refine XS.astore X50.here hx rfl (hb hby d16_17) rfl rfl (l' := #[.val (.ref a16_0), .val (.ref v5_1), .val (.int (3 : Int32)), .val (.int (1 : Int32)), .val (.ref u_THROUGHPUT)]) rfl ?_
    refine XS.aload X50.here hx rfl (hb hby d16_19) rfl rfl ?_
    refine st52 _ ?_
    refine XS.aloadN X52.here hx rfl (hb hby d16_24) rfl rfl ?_
    refine st53.trans ?_
    refine XS.ifYes X53.here hx rfl (pc0 := 28) (pc' := 37) rfl (hb hby d16_28) rfl ((if0 _ _).trans (teq (by decide : (0 : Int32) = (0 : Int32))).1) (by decide) (by decide) ?_
    refine XS.iinc X53.here hx rfl (hb hby d16_37) rfl (l' := #[.val (.ref a16_0), .val (.ref v5_1), .val (.int (3 : Int32)), .val (.int (2 : Int32)), .val (.ref u_THROUGHPUT)]) rfl ?_
    refine XS.goto X53.here hx rfl (pc0 := 40) (pc' := 9) rfl (hb hby d16_40) (by decide) (by decide) ?_
    show Steps p.tables e below (T53.setTop (mkF m 9 #[.val (.ref a16_0), .val (.ref v5_1), .val (.int (3 : Int32)), .val (.int (2 : Int32)), .val (.ref u_THROUGHPUT)] [])) _
    refine XS.iloadN X53.here hx rfl (hb hby d16_9) rfl ?_
    refine XS.iloadN X53.here hx rfl (hb hby d16_10) rfl ?_
    refine XS.icmpNo X53.here hx rfl (hb hby d16_11) rfl (tlt (by decide : (2 : Int32) < (3 : Int32))).2.1 ?_
    refine XS.aloadN X53.here hx rfl (hb hby d16_14) rfl rfl ?_
    refine XS.iloadN X53.here hx rfl (hb hby d16_15) rfl ?_
    refine X53.aaload hx (j := (2 : Int32)) (v := (.ref u_COST)) (by rw [eh53]; exact Ar54.1) (State.isArrayOf_alike hZ.alike Ar54.2.1) rfl Ar54.2.2 hin54 (Hh54.at hin54 rfl) (g := (mkF m 16 #[.val (.ref a16_0), .val (.ref v5_1), .val (.int (3 : Int32)), .val (.int (2 : Int32)), .val (.ref u_THROUGHPUT)] [(.int (2 : Int32)), (.ref v5_1)])) rfl rfl (hb hby d16_16) _ ?_
    refine XS.astore X53.here hx rfl (hb hby d16_17) rfl rfl (l' := #[.val (.ref a16_0), .val (.ref v5_1), .val (.int (3 : Int32)), .val (.int (2 : Int32)), .val (.ref u_COST)]) rfl ?_
    refine XS.aload X53.here hx rfl (hb hby d16_19) rfl rfl ?_
    refine st55 _ ?_
    refine XS.aloadN X55.here hx rfl (hb hby d16_24) rfl rfl ?_
    refine st56.trans ?_
    refine XS.ifNo X56.here hx rfl (hb hby d16_28) rfl ((if0 _ _).trans (feq (by decide : ¬ ((1 : Int32) = (0 : Int32)))).1) ?_
    refine XS.aload X56.here hx rfl (hb hby d16_31) rfl rfl ?_
    refine st57 _ ?_
    exact k
  obtain ⟨fs, hr, hrun, hended, hW, hsame⟩ := X57.leave (v := some (.ref r9_57)) (fun h => by rw [Bd.returns] at h; cases h)
  refine ⟨_, _, k106 _ ?_, hrun, hended, _, _, rfl, ?_, ⟨_, rfl⟩, hW, hsame.mono (by decide) (by decide)⟩
  · exact retOut X57 hx Bd.returns rfl (Or.inr (Or.inr (Or.inr (Or.inr ⟨rfl, rfl, rfl⟩)))) (hb hby d16_36) hr
  · show Q16 Z a16_0 u_EMPTY u__VALUES cl_u__VALUES u_RESPONSE_TIME u_THROUGHPUT u_COST u_RESPONSE_TIME_column u_RESPONSE_TIME_column_value cl_u_RESPONSE_TIME_column_value u_THROUGHPUT_column u_THROUGHPUT_column_value cl_u_THROUGHPUT_column_value u_COST_column u_COST_column_value cl_u_COST_column_value cs ta kt nz la h0 n0 _ T57.heap _
    exact ⟨r9_57, rfl, N57, K57, ggr9_57, szzr9_57, G57_0, G57_1⟩
theorem pd_9 : parseMethodDescriptor "()Ljava/util/Optional;" = some ⟨[], some (.object "java/util/Optional")⟩ := by decide +kernel
theorem d17_0 : decode prog_22_method_5_code 0 = .ok (.invokestatic 36, 3) := by decide +kernel
theorem d17_3 : decode prog_22_method_5_code 3 = .ok (.astore_n 1, 1) := by decide +kernel
theorem d17_4 : decode prog_22_method_5_code 4 = .ok (.aload_n 1, 1) := by decide +kernel
theorem d17_5 : decode prog_22_method_5_code 5 = .ok (.arraylength, 1) := by decide +kernel
theorem d17_6 : decode prog_22_method_5_code 6 = .ok (.istore_n 2, 1) := by decide +kernel
theorem d17_7 : decode prog_22_method_5_code 7 = .ok (.iconst 0, 1) := by decide +kernel
theorem d17_8 : decode prog_22_method_5_code 8 = .ok (.istore_n 3, 1) := by decide +kernel
theorem d17_9 : decode prog_22_method_5_code 9 = .ok (.iload_n 3, 1) := by decide +kernel
theorem d17_10 : decode prog_22_method_5_code 10 = .ok (.iload_n 2, 1) := by decide +kernel
theorem d17_11 : decode prog_22_method_5_code 11 = .ok (.if_icmp .ge 32, 3) := by decide +kernel
theorem d17_14 : decode prog_22_method_5_code 14 = .ok (.aload_n 1, 1) := by decide +kernel
theorem d17_15 : decode prog_22_method_5_code 15 = .ok (.iload_n 3, 1) := by decide +kernel
theorem d17_16 : decode prog_22_method_5_code 16 = .ok (.aaload, 1) := by decide +kernel
theorem d17_17 : decode prog_22_method_5_code 17 = .ok (.astore 4, 2) := by decide +kernel
theorem d17_19 : decode prog_22_method_5_code 19 = .ok (.aload 4, 2) := by decide +kernel
theorem d17_21 : decode prog_22_method_5_code 21 = .ok (.getfield 32, 3) := by decide +kernel
theorem d17_24 : decode prog_22_method_5_code 24 = .ok (.aload_n 0, 1) := by decide +kernel
theorem d17_25 : decode prog_22_method_5_code 25 = .ok (.invokevirtual 40, 3) := by decide +kernel
theorem d17_28 : decode prog_22_method_5_code 28 = .ok (.ifCond .eq 9, 3) := by decide +kernel
theorem d17_37 : decode prog_22_method_5_code 37 = .ok (.iinc 3 1, 3) := by decide +kernel
theorem d17_40 : decode prog_22_method_5_code 40 = .ok (.goto (-31), 3) := by decide +kernel
theorem d17_43 : decode prog_22_method_5_code 43 = .ok (.invokestatic 52, 3) := by decide +kernel
theorem d17_46 : decode prog_22_method_5_code 46 = .ok (.areturn, 1) := by decide +kernel
theorem ef_17 (m : MethodId) (a17_0 : Addr) : entryFrame m #[(.ref a17_0)] 5 = mkF m 0 #[.val (.ref a17_0), .unset, .unset, .unset, .unset] [] := by first | (simp [entryFrame, mkF, argsToLocals, Value.category]; done) | rfl
def Q17 (Z : State) (a17_0 : Addr) (u_EMPTY : Addr) (u__VALUES : Addr) (cl_u__VALUES : Cell) (u_RESPONSE_TIME : Addr) (u_THROUGHPUT : Addr) (u_COST : Addr) (u_RESPONSE_TIME_column : Addr) (u_RESPONSE_TIME_column_value : Addr) (cl_u_RESPONSE_TIME_column_value : Cell) (u_THROUGHPUT_column : Addr) (u_THROUGHPUT_column_value : Addr) (cl_u_THROUGHPUT_column_value : Cell) (u_COST_column : Addr) (u_COST_column_value : Addr) (cl_u_COST_column_value : Cell) (cs : Int32) (ta : Addr) (kt : ClassId) (nz : Int32) (la : List Int32) (h0 : Heap) (n0 : Nat) (v : Option Value) (h : Heap) (L : List Loc) : Prop := v = some (.ref u_EMPTY) ∧ Fr n0 L ∧ Keep h0 h []
set_option maxRecDepth 65536 in
set_option maxHeartbeats 40000000 in
theorem rm17 (l : Launch) (Z : State) (a0 : Array Value) (hw : ∀ d ∈ tables_1, d.before a0 Z = true) (ws : List Jvm.Cond) (a17_0 : Addr) (u_EMPTY : Addr) (u__VALUES : Addr) (cl_u__VALUES : Cell) (u_RESPONSE_TIME : Addr) (u_THROUGHPUT : Addr) (u_COST : Addr) (u_RESPONSE_TIME_column : Addr) (u_RESPONSE_TIME_column_value : Addr) (cl_u_RESPONSE_TIME_column_value : Cell) (u_THROUGHPUT_column : Addr) (u_THROUGHPUT_column_value : Addr) (cl_u_THROUGHPUT_column_value : Cell) (u_COST_column : Addr) (u_COST_column_value : Addr) (cl_u_COST_column_value : Cell) (cs : Int32) (ta : Addr) (kt : ClassId) (nz : Int32) (la : List Int32) (h0 : Heap) (n0 : Nat) (Z0 : n0 ≤ h0.size) (S_EMPTY : Sta Z h0 "java/util/Optional" "EMPTY" "Ljava/util/Optional;" (.ref u_EMPTY)) (E_u_EMPTY : Exa Z h0 u_EMPTY "java/util/Optional") (F_u_EMPTY_value : Fld Z h0 u_EMPTY "java/util/Optional" "value" "Ljava/lang/Object;" .null) (S__VALUES : Sta Z h0 "com/example/leanweave/leanweave/QosMeasure" "$VALUES" "[Lcom/example/leanweave/leanweave/QosMeasure;" (.ref u__VALUES)) (E_u__VALUES : Exa Z h0 u__VALUES "[Lcom/example/leanweave/leanweave/QosMeasure;") (S_RESPONSE_TIME : Sta Z h0 "com/example/leanweave/leanweave/QosMeasure" "RESPONSE_TIME" "Lcom/example/leanweave/leanweave/QosMeasure;" (.ref u_RESPONSE_TIME)) (E_u_RESPONSE_TIME : Exa Z h0 u_RESPONSE_TIME "com/example/leanweave/leanweave/QosMeasure") (S_THROUGHPUT : Sta Z h0 "com/example/leanweave/leanweave/QosMeasure" "THROUGHPUT" "Lcom/example/leanweave/leanweave/QosMeasure;" (.ref u_THROUGHPUT)) (E_u_THROUGHPUT : Exa Z h0 u_THROUGHPUT "com/example/leanweave/leanweave/QosMeasure") (S_COST : Sta Z h0 "com/example/leanweave/leanweave/QosMeasure" "COST" "Lcom/example/leanweave/leanweave/QosMeasure;" (.ref u_COST)) (E_u_COST : Exa Z h0 u_COST "com/example/leanweave/leanweave/QosMeasure") (F_u_RESPONSE_TIME_column : Fld Z h0 u_RESPONSE_TIME "com/example/leanweave/leanweave/QosMeasure" "column" "Ljava/lang/String;" (.ref u_RESPONSE_TIME_column)) (E_u_RESPONSE_TIME_column : Exa Z h0 u_RESPONSE_TIME_column "java/lang/String") (F_u_RESPONSE_TIME_column_coder : Fld Z h0 u_RESPONSE_TIME_column "java/lang/String" "coder" "B" (.int (0 : Int32))) (F_u_RESPONSE_TIME_column_value : Fld Z h0 u_RESPONSE_TIME_column "java/lang/String" "value" "[B" (.ref u_RESPONSE_TIME_column_value)) (F_u_THROUGHPUT_column : Fld Z h0 u_THROUGHPUT "com/example/leanweave/leanweave/QosMeasure" "column" "Ljava/lang/String;" (.ref u_THROUGHPUT_column)) (E_u_THROUGHPUT_column : Exa Z h0 u_THROUGHPUT_column "java/lang/String") (F_u_THROUGHPUT_column_coder : Fld Z h0 u_THROUGHPUT_column "java/lang/String" "coder" "B" (.int (0 : Int32))) (F_u_THROUGHPUT_column_value : Fld Z h0 u_THROUGHPUT_column "java/lang/String" "value" "[B" (.ref u_THROUGHPUT_column_value)) (F_u_COST_column : Fld Z h0 u_COST "com/example/leanweave/leanweave/QosMeasure" "column" "Ljava/lang/String;" (.ref u_COST_column)) (E_u_COST_column : Exa Z h0 u_COST_column "java/lang/String") (F_u_COST_column_coder : Fld Z h0 u_COST_column "java/lang/String" "coder" "B" (.int (0 : Int32))) (F_u_COST_column_value : Fld Z h0 u_COST_column "java/lang/String" "value" "[B" (.ref u_COST_column_value)) (V_u__VALUES : Arv Z h0 u__VALUES cl_u__VALUES.cls (.object "com/example/leanweave/leanweave/QosMeasure") (3 : Int32) [(.ref u_RESPONSE_TIME), (.ref u_THROUGHPUT), (.ref u_COST)] .null) (V_u_RESPONSE_TIME_column_value : Arv Z h0 u_RESPONSE_TIME_column_value cl_u_RESPONSE_TIME_column_value.cls .byte (16 : Int32) [(.int (114 : Int32)), (.int (101 : Int32)), (.int (115 : Int32)), (.int (112 : Int32)), (.int (111 : Int32)), (.int (110 : Int32)), (.int (115 : Int32)), (.int (101 : Int32)), (.int (95 : Int32)), (.int (116 : Int32)), (.int (105 : Int32)), (.int (109 : Int32)), (.int (101 : Int32)), (.int (95 : Int32)), (.int (109 : Int32)), (.int (115 : Int32))] (.int (0 : Int32))) (V_u_THROUGHPUT_column_value : Arv Z h0 u_THROUGHPUT_column_value cl_u_THROUGHPUT_column_value.cls .byte (16 : Int32) [(.int (116 : Int32)), (.int (104 : Int32)), (.int (114 : Int32)), (.int (111 : Int32)), (.int (117 : Int32)), (.int (103 : Int32)), (.int (104 : Int32)), (.int (112 : Int32)), (.int (117 : Int32)), (.int (116 : Int32)), (.int (95 : Int32)), (.int (112 : Int32)), (.int (101 : Int32)), (.int (114 : Int32)), (.int (95 : Int32)), (.int (115 : Int32))] (.int (0 : Int32))) (V_u_COST_column_value : Arv Z h0 u_COST_column_value cl_u_COST_column_value.cls .byte (4 : Int32) [(.int (99 : Int32)), (.int (111 : Int32)), (.int (115 : Int32)), (.int (116 : Int32))] (.int (0 : Int32))) (Sc : Sta Z h0 "java/lang/String" "COMPACT_STRINGS" "Z" (.int cs)) (Es : Exa Z h0 a17_0 "java/lang/String") (Fs : Fld Z h0 a17_0 "java/lang/String" "value" "[B" (.ref ta)) (Fz : Fld Z h0 a17_0 "java/lang/String" "coder" "B" (.int (0 : Int32))) (Vs : Arv Z h0 ta kt .byte nz (List.map Value.int (List.map (fun c => c.toInt8.toInt32) la)) (.int (0 : Int32))) (hcs : ¬ (cs = (0 : Int32))) (hnz : nz = Int32.ofNat la.length) (hb_la : ∀ c ∈ la, ¬ c < 0 ∧ ¬ (255 : Int32) < c) (hl_la : la.length ≤ 4000) (hnR : ¬ (la = own_LR)) (hnT : ¬ (la = own_LT)) (hnC : ¬ (la = own_LC)) :
    MetFree l (⟨"com/example/leanweave/leanweave/QosMeasure", "ofColumn", "(Ljava/lang/String;)Ljava/util/Optional;"⟩ : MethodName) (head1 (Jvm.Cond.code (⟨"com/example/leanweave/leanweave/QosMeasure", "ofColumn", "(Ljava/lang/String;)Ljava/util/Optional;"⟩ : MethodName) prog_22_method_5_code 5 (some (.object "java/util/Optional")) :: ws) ({ frames := 2, cells := 1, slots := 3, locals := 28 } : Room)) (fun a U => a = #[(.ref a17_0)] ∧ Z.Warmed39 U.vm ∧ U.heap = h0) (fun _ _ _ _ _ => True) (fun _ U o U' => ∃ v L, o = .returned v ∧ Q17 Z a17_0 u_EMPTY u__VALUES cl_u__VALUES u_RESPONSE_TIME u_THROUGHPUT u_COST u_RESPONSE_TIME_column u_RESPONSE_TIME_column_value cl_u_RESPONSE_TIME_column_value u_THROUGHPUT_column u_THROUGHPUT_column_value cl_u_THROUGHPUT_column_value u_COST_column u_COST_column_value cl_u_COST_column_value cs ta kt nz la h0 n0 v U'.heap L ∧ FrameEnd U o U' L ({ frames := 2, cells := 1, slots := 3, locals := 28 } : Room).cells ({ frames := 2, cells := 1, slots := 3, locals := 28 } : Room).slots) := by
  refine MetFree.of_bodySF (plainFor_of_name pn_2) hisR ?_
  intro p e s m args below meth c s₁ Bd hml0 hP hK
  obtain ⟨rfl, hZ, hh⟩ := hP
  have hx := Bd.exec
  have hby := Bd.bytes
  have hml : c.maxLocals = 5 := hml0
  have hown : s.vm.findClass "com/example/leanweave/leanweave/QosMeasure" = some m.cls := findClass_of_methodNamed Bd.named
  have hnm := (name_of_methodNamed Bd.named Bd.method).1
  have X0 : Stand p l e ({ frames := 2, cells := 1, slots := 3, locals := 28 } : Room) s m #[(.ref a17_0)] below meth c s₁ [] 0 0 := Stand.of_body Bd
  have e0 : s₁.heap = h0 := by rw [← hh, Bd.state]; rfl
  have N0 := Fr.nil n0
  have pre0 : ∀ t, Steps p.tables e below (s₁.setTop (mkF m 0 #[.val (.ref a17_0), .unset, .unset, .unset, .unset] [])) t → Steps p.tables e below (s₁.setTop (entryFrame m #[(.ref a17_0)] 5)) t := fun t k => castTop (ef_17 m a17_0) k
  obtain ⟨_, _, ⟨T1, L1, k1, n1⟩, -, X1, ⟨Lc1, hQ1, l1, y1, z1⟩, st1⟩ := Jvm.LawKit.callS X0 hx (y := (⟨"com/example/leanweave/leanweave/QosMeasure", "values", "()[Lcom/example/leanweave/leanweave/QosMeasure;"⟩ : MethodName)) hown (mvT hZ (wd hw 77 rfl)) (mvT hZ (wd hw 78 rfl)) (mvT hZ (wd hw 75 rfl)) (mvT hZ (wd hw 79 rfl)) (by decide) (backOf (W := 0) (rm5 l Z a0 hw [] u__VALUES cl_u__VALUES u_RESPONSE_TIME u_THROUGHPUT u_COST h0 n0 Z0 S__VALUES E_u__VALUES V_u__VALUES) hZ (wd hw 79 rfl) (wd hw 75 rfl) (by decide) (by decide)) (g := (mkF m 0 #[.val (.ref a17_0), .unset, .unset, .unset, .unset] [])) rfl (by rw [hml]; rfl) (argsL := []) (rest := []) (lenOf pd_6 rfl) rfl (by show 2 * 0 + _ ≤ _; exact Nat.le_of_eq rfl) (hb hby d17_0) (fun _ _ => ⟨rfl, e0, (by decide : 0 + 1 ≤ _), (by decide : 0 + 3 ≤ _)⟩)
  dsimp only [Pt.U, Pt.locs, Pt.cells, Pt.slots] at X1 l1 y1 z1 st1 hQ1
  rw [l1, y1, z1] at X1
  obtain ⟨v5_1, rfl, N1q, Kc1, ggv5_1, szv5_1, G1_0, G1_1⟩ := hQ1
  have ne2 : u_EMPTY ≠ v5_1 := Nat.ne_of_lt (Nat.lt_of_lt_of_le E_u_EMPTY.lt szv5_1)
  have ne3 : u__VALUES ≠ v5_1 := Nat.ne_of_lt (Nat.lt_of_lt_of_le E_u__VALUES.lt szv5_1)
  have ne4 : u_RESPONSE_TIME ≠ v5_1 := Nat.ne_of_lt (Nat.lt_of_lt_of_le E_u_RESPONSE_TIME.lt szv5_1)
  have ne5 : u_THROUGHPUT ≠ v5_1 := Nat.ne_of_lt (Nat.lt_of_lt_of_le E_u_THROUGHPUT.lt szv5_1)
  have ne6 : u_COST ≠ v5_1 := Nat.ne_of_lt (Nat.lt_of_lt_of_le E_u_COST.lt szv5_1)
  have ne7 : u_RESPONSE_TIME_column ≠ v5_1 := Nat.ne_of_lt (Nat.lt_of_lt_of_le E_u_RESPONSE_TIME_column.lt szv5_1)
  have ne8 : u_THROUGHPUT_column ≠ v5_1 := Nat.ne_of_lt (Nat.lt_of_lt_of_le E_u_THROUGHPUT_column.lt szv5_1)
  have ne9 : u_COST_column ≠ v5_1 := Nat.ne_of_lt (Nat.lt_of_lt_of_le E_u_COST_column.lt szv5_1)
  have ne10 : u_RESPONSE_TIME_column_value ≠ v5_1 := Nat.ne_of_lt (Nat.lt_of_lt_of_le V_u_RESPONSE_TIME_column_value.lt szv5_1)
  have ne11 : u_THROUGHPUT_column_value ≠ v5_1 := Nat.ne_of_lt (Nat.lt_of_lt_of_le V_u_THROUGHPUT_column_value.lt szv5_1)
  have ne12 : u_COST_column_value ≠ v5_1 := Nat.ne_of_lt (Nat.lt_of_lt_of_le V_u_COST_column_value.lt szv5_1)
  have ne13 : a17_0 ≠ v5_1 := Nat.ne_of_lt (Nat.lt_of_lt_of_le Es.lt szv5_1)
  have ne14 : ta ≠ v5_1 := Nat.ne_of_lt (Nat.lt_of_lt_of_le Vs.lt szv5_1)
  have szzv5_1 : h0.size ≤ v5_1 := Nat.le_trans (Keep.refl h0 []).1 szv5_1
  have Zs1 : n0 ≤ T1.heap.size := Nat.le_trans Z0 Kc1.1
  have K1 : Keep h0 T1.heap [] := (Keep.refl h0 []).trans Kc1 all0
  have F15 := own_stakeep S_EMPTY Kc1 all0
  have F16 := E_u_EMPTY.keep Kc1
  have F17 := F_u_EMPTY_value.keep Kc1 nin0
  have F18 := own_stakeep S__VALUES Kc1 all0
  have F19 := E_u__VALUES.keep Kc1
  have F20 := own_stakeep S_RESPONSE_TIME Kc1 all0
  have F21 := E_u_RESPONSE_TIME.keep Kc1
  have F22 := own_stakeep S_THROUGHPUT Kc1 all0
  have F23 := E_u_THROUGHPUT.keep Kc1
  have F24 := own_stakeep S_COST Kc1 all0
  have F25 := E_u_COST.keep Kc1
  have F26 := F_u_RESPONSE_TIME_column.keep Kc1 nin0
  have F27 := E_u_RESPONSE_TIME_column.keep Kc1
  have F28 := F_u_RESPONSE_TIME_column_coder.keep Kc1 nin0
  have F29 := F_u_RESPONSE_TIME_column_value.keep Kc1 nin0
  have F30 := F_u_THROUGHPUT_column.keep Kc1 nin0
  have F31 := E_u_THROUGHPUT_column.keep Kc1
  have F32 := F_u_THROUGHPUT_column_coder.keep Kc1 nin0
  have F33 := F_u_THROUGHPUT_column_value.keep Kc1 nin0
  have F34 := F_u_COST_column.keep Kc1 nin0
  have F35 := E_u_COST_column.keep Kc1
  have F36 := F_u_COST_column_coder.keep Kc1 nin0
  have F37 := F_u_COST_column_value.keep Kc1 nin0
  have F38 := V_u__VALUES.keep Kc1 nin0
  have F39 := V_u_RESPONSE_TIME_column_value.keep Kc1 nin0
  have F40 := V_u_THROUGHPUT_column_value.keep Kc1 nin0
  have F41 := V_u_COST_column_value.keep Kc1 nin0
  have F42 := own_stakeep Sc Kc1 all0
  have F43 := Es.keep Kc1
  have F44 := Fs.keep Kc1 nin0
  have F45 := Fz.keep Kc1 nin0
  have F46 := Vs.keep Kc1 nin0
  have N1 := Fr.app N0 N1q
  obtain ⟨cl47, Ar47, qc47, Sz47, Nn47, Hh47, Gg47⟩ := (id G1_0)
  obtain ⟨cl48, Ar48, qc48, Sz48, Nn48, Hh48, Gg48⟩ := (id G1_0)
  have hin48 : ¬ ((0 : Int32) < 0 ∨ cl48.slots.size ≤ ((0 : Int32)).toNatClampNeg) := inb_of Sz48 ⟨by decide, by decide⟩
  obtain ⟨T49, X49, e49, st49⟩ := getF X1 hx hZ hown (host := "") (Or.inl (wd hw 95 rfl)) Via.refl rfl F26 (g := (mkF m 21 #[.val (.ref a17_0), .val (.ref v5_1), .val (.int (3 : Int32)), .val (.int (0 : Int32)), .val (.ref u_RESPONSE_TIME)] [(.ref u_RESPONSE_TIME)])) rfl rfl (hb hby d17_21)
  obtain ⟨cq50, kq50, q50a, q50b, q50c⟩ := isOf hZ e49 F27
  obtain ⟨_, _, ⟨T50, L50, k50, n50⟩, -, X50, ⟨Lc50, hQ50, l50, y50, z50⟩, st50⟩ := X49.virtualBack hx (y := (⟨"java/lang/String", "equals", "(Ljava/lang/Object;)Z"⟩ : MethodName)) (z := (⟨"java/lang/String", "equals", "(Ljava/lang/Object;)Z"⟩ : MethodName)) hown (mvT hZ (wd hw 97 rfl)) (mvT hZ (wd hw 98 rfl)) (notFace_of_selects (args := #[]) (mvT hZ (wd hw 100 rfl))) (mvT hZ (wd hw 100 rfl)) (mvT hZ (wd hw 99 rfl)) (by decide) (StrChars.Road.eqW (W := 0) hZ (fun d hd => hw d (own_sub_eqW d hd)) (kI := 4) (wd hw 3 rfl) (cs := own_LR) F27 F29 F28 F39 own_codR own_bdR (by decide) (ds := la) F43 F44 F45 F46 (own_codG hnz hb_la) (own_u16 hb_la) hl_la F42 hcs (by decide) (by decide)) q50a q50c (g := (mkF m 25 #[.val (.ref a17_0), .val (.ref v5_1), .val (.int (3 : Int32)), .val (.int (0 : Int32)), .val (.ref u_RESPONSE_TIME)] [(.ref a17_0), (.ref u_RESPONSE_TIME_column)])) rfl (by rw [hml]; rfl) (Steps.refl _) (argsL := [(.ref a17_0)]) (rest := []) (lenOf pd_7 rfl) rfl (by show 2 * 0 + _ ≤ _; exact Nat.le_of_eq rfl) (hb hby d17_25) (fun _ _ => ⟨rfl, e49, (by decide : 1 + 0 ≤ _), (by decide : 3 + 0 ≤ _)⟩)
  dsimp only [Pt.U, Pt.locs, Pt.cells, Pt.slots] at X50 l50 y50 z50 st50 hQ50
  rw [l50, y50, z50] at X50
  obtain ⟨hor50, rfl, eh50⟩ := hQ50
  have N50 := Fr.app N1 (Fr.nil n0)
  have hov50 := own_orF hor50 (fun q => hnR q.symm)
  subst hov50
  obtain ⟨cl51, Ar51, qc51, Sz51, Nn51, Hh51, Gg51⟩ := (id G1_0)
  have hin51 : ¬ ((1 : Int32) < 0 ∨ cl51.slots.size ≤ ((1 : Int32)).toNatClampNeg) := inb_of Sz51 ⟨by decide, by decide⟩
  obtain ⟨T52, X52, e52, st52⟩ := getF X50 hx hZ hown (host := "") (Or.inl (wd hw 95 rfl)) Via.refl eh50 F30 (g := (mkF m 21 #[.val (.ref a17_0), .val (.ref v5_1), .val (.int (3 : Int32)), .val (.int (1 : Int32)), .val (.ref u_THROUGHPUT)] [(.ref u_THROUGHPUT)])) rfl rfl (hb hby d17_21)
  obtain ⟨cq53, kq53, q53a, q53b, q53c⟩ := isOf hZ e52 F31
  obtain ⟨_, _, ⟨T53, L53, k53, n53⟩, -, X53, ⟨Lc53, hQ53, l53, y53, z53⟩, st53⟩ := X52.virtualBack hx (y := (⟨"java/lang/String", "equals", "(Ljava/lang/Object;)Z"⟩ : MethodName)) (z := (⟨"java/lang/String", "equals", "(Ljava/lang/Object;)Z"⟩ : MethodName)) hown (mvT hZ (wd hw 97 rfl)) (mvT hZ (wd hw 98 rfl)) (notFace_of_selects (args := #[]) (mvT hZ (wd hw 100 rfl))) (mvT hZ (wd hw 100 rfl)) (mvT hZ (wd hw 99 rfl)) (by decide) (StrChars.Road.eqW (W := 0) hZ (fun d hd => hw d (own_sub_eqW d hd)) (kI := 4) (wd hw 3 rfl) (cs := own_LT) F31 F33 F32 F40 own_codT own_bdT (by decide) (ds := la) F43 F44 F45 F46 (own_codG hnz hb_la) (own_u16 hb_la) hl_la F42 hcs (by decide) (by decide)) q53a q53c (g := (mkF m 25 #[.val (.ref a17_0), .val (.ref v5_1), .val (.int (3 : Int32)), .val (.int (1 : Int32)), .val (.ref u_THROUGHPUT)] [(.ref a17_0), (.ref u_THROUGHPUT_column)])) rfl (by rw [hml]; rfl) (Steps.refl _) (argsL := [(.ref a17_0)]) (rest := []) (lenOf pd_7 rfl) rfl (by show 2 * 0 + _ ≤ _; exact Nat.le_of_eq rfl) (hb hby d17_25) (fun _ _ => ⟨rfl, e52, (by decide : 1 + 0 ≤ _), (by decide : 3 + 0 ≤ _)⟩)
  dsimp only [Pt.U, Pt.locs, Pt.cells, Pt.slots] at X53 l53 y53 z53 st53 hQ53
  rw [l53, y53, z53] at X53
  obtain ⟨hor53, rfl, eh53⟩ := hQ53
  have N53 := Fr.app N50 (Fr.nil n0)
  have hov53 := own_orF hor53 (fun q => hnT q.symm)
  subst hov53
  obtain ⟨cl54, Ar54, qc54, Sz54, Nn54, Hh54, Gg54⟩ := (id G1_0)
  have hin54 : ¬ ((2 : Int32) < 0 ∨ cl54.slots.size ≤ ((2 : Int32)).toNatClampNeg) := inb_of Sz54 ⟨by decide, by decide⟩
  obtain ⟨T55, X55, e55, st55⟩ := getF X53 hx hZ hown (host := "") (Or.inl (wd hw 95 rfl)) Via.refl eh53 F34 (g := (mkF m 21 #[.val (.ref a17_0), .val (.ref v5_1), .val (.int (3 : Int32)), .val (.int (2 : Int32)), .val (.ref u_COST)] [(.ref u_COST)])) rfl rfl (hb hby d17_21)
  obtain ⟨cq56, kq56, q56a, q56b, q56c⟩ := isOf hZ e55 F35
  obtain ⟨_, _, ⟨T56, L56, k56, n56⟩, -, X56, ⟨Lc56, hQ56, l56, y56, z56⟩, st56⟩ := X55.virtualBack hx (y := (⟨"java/lang/String", "equals", "(Ljava/lang/Object;)Z"⟩ : MethodName)) (z := (⟨"java/lang/String", "equals", "(Ljava/lang/Object;)Z"⟩ : MethodName)) hown (mvT hZ (wd hw 97 rfl)) (mvT hZ (wd hw 98 rfl)) (notFace_of_selects (args := #[]) (mvT hZ (wd hw 100 rfl))) (mvT hZ (wd hw 100 rfl)) (mvT hZ (wd hw 99 rfl)) (by decide) (StrChars.Road.eqW (W := 0) hZ (fun d hd => hw d (own_sub_eqW d hd)) (kI := 4) (wd hw 3 rfl) (cs := own_LC) F35 F37 F36 F41 own_codC own_bdC (by decide) (ds := la) F43 F44 F45 F46 (own_codG hnz hb_la) (own_u16 hb_la) hl_la F42 hcs (by decide) (by decide)) q56a q56c (g := (mkF m 25 #[.val (.ref a17_0), .val (.ref v5_1), .val (.int (3 : Int32)), .val (.int (2 : Int32)), .val (.ref u_COST)] [(.ref a17_0), (.ref u_COST_column)])) rfl (by rw [hml]; rfl) (Steps.refl _) (argsL := [(.ref a17_0)]) (rest := []) (lenOf pd_7 rfl) rfl (by show 2 * 0 + _ ≤ _; exact Nat.le_of_eq rfl) (hb hby d17_25) (fun _ _ => ⟨rfl, e55, (by decide : 1 + 0 ≤ _), (by decide : 3 + 0 ≤ _)⟩)
  dsimp only [Pt.U, Pt.locs, Pt.cells, Pt.slots] at X56 l56 y56 z56 st56 hQ56
  rw [l56, y56, z56] at X56
  obtain ⟨hor56, rfl, eh56⟩ := hQ56
  have N56 := Fr.app N53 (Fr.nil n0)
  have hov56 := own_orF hor56 (fun q => hnC q.symm)
  subst hov56
  obtain ⟨_, _, ⟨T57, L57, k57, n57⟩, -, X57, ⟨Lc57, hQ57, l57, y57, z57⟩, st57⟩ := Jvm.LawKit.callS X56 hx (y := (⟨"java/util/Optional", "empty", "()Ljava/util/Optional;"⟩ : MethodName)) hown (mvT hZ (wd hw 106 rfl)) (mvT hZ (wd hw 107 rfl)) (mvT hZ (wd hw 108 rfl)) (mvT hZ (wd hw 109 rfl)) (by decide) (backOf (W := 0) (rm10 l Z a0 hw [] u_EMPTY T1.heap n0 Zs1 F15) hZ (wd hw 109 rfl) (wd hw 108 rfl) (by decide) (by decide)) (g := (mkF m 43 #[.val (.ref a17_0), .val (.ref v5_1), .val (.int (3 : Int32)), .val (.int (3 : Int32)), .val (.ref u_COST)] [])) rfl (by rw [hml]; rfl) (argsL := []) (rest := []) (lenOf pd_9 rfl) rfl (by show 2 * 0 + _ ≤ _; exact Nat.le_of_eq rfl) (hb hby d17_43) (fun _ _ => ⟨rfl, eh56, (by decide : 1 + 0 ≤ _), (by decide : 3 + 0 ≤ _)⟩)
  dsimp only [Pt.U, Pt.locs, Pt.cells, Pt.slots] at X57 l57 y57 z57 st57 hQ57
  rw [l57, y57, z57] at X57
  obtain ⟨rfl, N57q, eh57⟩ := hQ57
  have N57 := Fr.app N56 N57q
  have k58 : ∀ t, Steps p.tables e below (T57.setTop (mkF m 46 #[.val (.ref a17_0), .val (.ref v5_1), .val (.int (3 : Int32)), .val (.int (3 : Int32)), .val (.ref u_COST)] [(.ref u_EMPTY)])) t → Steps p.tables e below (s₁.setTop (entryFrame m #[(.ref a17_0)] 5)) t := by
    intro t k
    refine pre0 t ?_
    refine st1 _ ?_
    refine XS.astoreN X1.here hx rfl (hb hby d17_3) rfl rfl (l' := #[.val (.ref a17_0), .val (.ref v5_1), .unset, .unset, .unset]) rfl ?_
    refine XS.aloadN X1.here hx rfl (hb hby d17_4) rfl rfl ?_
    refine X1.arraylength hx Ar47.1 (State.isArrayOf_alike hZ.alike Ar47.2.1) (g := (mkF m 5 #[.val (.ref a17_0), .val (.ref v5_1), .unset, .unset, .unset] [(.ref v5_1)])) rfl rfl (hb hby d17_5) _ ?_
    rw [len_of Sz47 Nn47]
    refine XS.istoreN X1.here hx rfl (hb hby d17_6) rfl (l' := #[.val (.ref a17_0), .val (.ref v5_1), .val (.int (3 : Int32)), .unset, .unset]) rfl ?_
    refine XS.iconst X1.here hx rfl (hb hby d17_7) ?_
    refine XS.istoreN X1.here hx rfl (hb hby d17_8) rfl (l' := #[.val (.ref a17_0), .val (.ref v5_1), .val (.int (3 : Int32)), .val (.int (0 : Int32)), .unset]) rfl ?_
    refine XS.iloadN X1.here hx rfl (hb hby d17_9) rfl ?_
    refine XS.iloadN X1.here hx rfl (hb hby d17_10) rfl ?_
    refine XS.icmpNo X1.here hx rfl (hb hby d17_11) rfl (tlt (by decide : (0 : Int32) < (3 : Int32))).2.1 ?_
    refine XS.aloadN X1.here hx rfl (hb hby d17_14) rfl rfl ?_
    refine XS.iloadN X1.here hx rfl (hb hby d17_15) rfl ?_
    refine X1.aaload hx (j := (0 : Int32)) (v := (.ref u_RESPONSE_TIME)) Ar48.1 (State.isArrayOf_alike hZ.alike Ar48.2.1) rfl Ar48.2.2 hin48 (Hh48.at hin48 rfl) (g := (mkF m 16 #[.val (.ref a17_0), .val (.ref v5_1), .val (.int (3 : Int32)), .val (.int (0 : Int32)), .unset] [(.int (0 : Int32)), (.ref v5_1)])) rfl rfl (hb hby d17_16) _ ?_
    refine XS.astore X1.here hx rfl (hb hby d17_17) rfl rfl (l' := #[.val (.ref a17_0), .val (.ref v5_1), .val (.int (3 : Int32)), .val (.int (0 : Int32)), .val (.ref u_RESPONSE_TIME)]) rfl ?_
    refine XS.aload X1.here hx rfl (hb hby d17_19) rfl rfl ?_
    refine st49 _ ?_
    refine XS.aloadN X49.here hx rfl (hb hby d17_24) rfl rfl ?_
    show Steps p.tables e below (T49.setTop (mkF m 25 #[.val (.ref a17_0), .val (.ref v5_1), .val (.int (3 : Int32)), .val (.int (0 : Int32)), .val (.ref u_RESPONSE_TIME)] [(.ref a17_0), (.ref u_RESPONSE_TIME_column)])) _
    refine st50.trans ?_
    refine XS.ifYes X50.here hx rfl (pc0 := 28) (pc' := 37) rfl (hb hby d17_28) rfl ((if0 _ _).trans (teq (by decide : (0 : Int32) = (0 : Int32))).1) (by decide) (by decide) ?_
    refine XS.iinc X50.here hx rfl (hb hby d17_37) rfl (l' := #[.val (.ref a17_0), .val (.ref v5_1), .val (.int (3 : Int32)), .val (.int (1 : Int32)), .val (.ref u_RESPONSE_TIME)]) rfl ?_
    refine XS.goto X50.here hx rfl (pc0 := 40) (pc' := 9) rfl (hb hby d17_40) (by decide) (by decide) ?_
    refine XS.iloadN X50.here hx rfl (hb hby d17_9) rfl ?_
    refine XS.iloadN X50.here hx rfl (hb hby d17_10) rfl ?_
    refine XS.icmpNo X50.here hx rfl (hb hby d17_11) rfl (tlt (by decide : (1 : Int32) < (3 : Int32))).2.1 ?_
    refine XS.aloadN X50.here hx rfl (hb hby d17_14) rfl rfl ?_
    refine XS.iloadN X50.here hx rfl (hb hby d17_15) rfl ?_
    refine X50.aaload hx (j := (1 : Int32)) (v := (.ref u_THROUGHPUT)) (by rw [eh50]; exact Ar51.1) (State.isArrayOf_alike hZ.alike Ar51.2.1) rfl Ar51.2.2 hin51 (Hh51.at hin51 rfl) (g := (mkF m 16 #[.val (.ref a17_0), .val (.ref v5_1), .val (.int (3 : Int32)), .val (.int (1 : Int32)), .val (.ref u_RESPONSE_TIME)] [(.int (1 : Int32)), (.ref v5_1)])) rfl rfl (hb hby d17_16) _ ?_
    refine XS.astore X50.here hx rfl (hb hby d17_17) rfl rfl (l' := #[.val (.ref a17_0), .val (.ref v5_1), .val (.int (3 : Int32)), .val (.int (1 : Int32)), .val (.ref u_THROUGHPUT)]) rfl ?_
    refine XS.aload X50.here hx rfl (hb hby d17_19) rfl rfl ?_
    refine st52 _ ?_
    refine XS.aloadN X52.here hx rfl (hb hby d17_24) rfl rfl ?_
    refine st53.trans ?_
    refine XS.ifYes X53.here hx rfl (pc0 := 28) (pc' := 37) rfl (hb hby d17_28) rfl ((if0 _ _).trans (teq (by decide : (0 : Int32) = (0 : Int32))).1) (by decide) (by decide) ?_
    refine XS.iinc X53.here hx rfl (hb hby d17_37) rfl (l' := #[.val (.ref a17_0), .val (.ref v5_1), .val (.int (3 : Int32)), .val (.int (2 : Int32)), .val (.ref u_THROUGHPUT)]) rfl ?_
    refine XS.goto X53.here hx rfl (pc0 := 40) (pc' := 9) rfl (hb hby d17_40) (by decide) (by decide) ?_
    show Steps p.tables e below (T53.setTop (mkF m 9 #[.val (.ref a17_0), .val (.ref v5_1), .val (.int (3 : Int32)), .val (.int (2 : Int32)), .val (.ref u_THROUGHPUT)] [])) _
    refine XS.iloadN X53.here hx rfl (hb hby d17_9) rfl ?_
    refine XS.iloadN X53.here hx rfl (hb hby d17_10) rfl ?_
    refine XS.icmpNo X53.here hx rfl (hb hby d17_11) rfl (tlt (by decide : (2 : Int32) < (3 : Int32))).2.1 ?_
    refine XS.aloadN X53.here hx rfl (hb hby d17_14) rfl rfl ?_
    refine XS.iloadN X53.here hx rfl (hb hby d17_15) rfl ?_
    refine X53.aaload hx (j := (2 : Int32)) (v := (.ref u_COST)) (by rw [eh53]; exact Ar54.1) (State.isArrayOf_alike hZ.alike Ar54.2.1) rfl Ar54.2.2 hin54 (Hh54.at hin54 rfl) (g := (mkF m 16 #[.val (.ref a17_0), .val (.ref v5_1), .val (.int (3 : Int32)), .val (.int (2 : Int32)), .val (.ref u_THROUGHPUT)] [(.int (2 : Int32)), (.ref v5_1)])) rfl rfl (hb hby d17_16) _ ?_
    refine XS.astore X53.here hx rfl (hb hby d17_17) rfl rfl (l' := #[.val (.ref a17_0), .val (.ref v5_1), .val (.int (3 : Int32)), .val (.int (2 : Int32)), .val (.ref u_COST)]) rfl ?_
    refine XS.aload X53.here hx rfl (hb hby d17_19) rfl rfl ?_
    refine st55 _ ?_
    refine XS.aloadN X55.here hx rfl (hb hby d17_24) rfl rfl ?_
    refine st56.trans ?_
    refine XS.ifYes X56.here hx rfl (pc0 := 28) (pc' := 37) rfl (hb hby d17_28) rfl ((if0 _ _).trans (teq (by decide : (0 : Int32) = (0 : Int32))).1) (by decide) (by decide) ?_
    refine XS.iinc X56.here hx rfl (hb hby d17_37) rfl (l' := #[.val (.ref a17_0), .val (.ref v5_1), .val (.int (3 : Int32)), .val (.int (3 : Int32)), .val (.ref u_COST)]) rfl ?_
    refine XS.goto X56.here hx rfl (pc0 := 40) (pc' := 9) rfl (hb hby d17_40) (by decide) (by decide) ?_
    refine XS.iloadN X56.here hx rfl (hb hby d17_9) rfl ?_
    refine XS.iloadN X56.here hx rfl (hb hby d17_10) rfl ?_
    refine XS.icmpYes X56.here hx rfl (pc0 := 11) (pc' := 43) rfl (hb hby d17_11) rfl (flt (by decide : ¬ ((3 : Int32) < (3 : Int32)))).2.1 (by decide) (by decide) ?_
    refine st57 _ ?_
    exact k
  obtain ⟨fs, hr, hrun, hended, hW, hsame⟩ := X57.leave (v := some (.ref u_EMPTY)) (fun h => by rw [Bd.returns] at h; cases h)
  refine ⟨_, _, k58 _ ?_, hrun, hended, _, _, rfl, ?_, ⟨_, rfl⟩, hW, hsame.mono (by decide) (by decide)⟩
  · exact retOut X57 hx Bd.returns rfl (Or.inr (Or.inr (Or.inr (Or.inr ⟨rfl, rfl, rfl⟩)))) (hb hby d17_46) hr
  · show Q17 Z a17_0 u_EMPTY u__VALUES cl_u__VALUES u_RESPONSE_TIME u_THROUGHPUT u_COST u_RESPONSE_TIME_column u_RESPONSE_TIME_column_value cl_u_RESPONSE_TIME_column_value u_THROUGHPUT_column u_THROUGHPUT_column_value cl_u_THROUGHPUT_column_value u_COST_column u_COST_column_value cl_u_COST_column_value cs ta kt nz la h0 n0 _ T57.heap _
    rw [eh57]
    exact ⟨rfl, N57, K1⟩
theorem d18_0 : decode prog_22_method_5_code 0 = .ok (.invokestatic 36, 3) := by decide +kernel
theorem d18_3 : decode prog_22_method_5_code 3 = .ok (.astore_n 1, 1) := by decide +kernel
theorem d18_4 : decode prog_22_method_5_code 4 = .ok (.aload_n 1, 1) := by decide +kernel
theorem d18_5 : decode prog_22_method_5_code 5 = .ok (.arraylength, 1) := by decide +kernel
theorem d18_6 : decode prog_22_method_5_code 6 = .ok (.istore_n 2, 1) := by decide +kernel
theorem d18_7 : decode prog_22_method_5_code 7 = .ok (.iconst 0, 1) := by decide +kernel
theorem d18_8 : decode prog_22_method_5_code 8 = .ok (.istore_n 3, 1) := by decide +kernel
theorem d18_9 : decode prog_22_method_5_code 9 = .ok (.iload_n 3, 1) := by decide +kernel
theorem d18_10 : decode prog_22_method_5_code 10 = .ok (.iload_n 2, 1) := by decide +kernel
theorem d18_11 : decode prog_22_method_5_code 11 = .ok (.if_icmp .ge 32, 3) := by decide +kernel
theorem d18_14 : decode prog_22_method_5_code 14 = .ok (.aload_n 1, 1) := by decide +kernel
theorem d18_15 : decode prog_22_method_5_code 15 = .ok (.iload_n 3, 1) := by decide +kernel
theorem d18_16 : decode prog_22_method_5_code 16 = .ok (.aaload, 1) := by decide +kernel
theorem d18_17 : decode prog_22_method_5_code 17 = .ok (.astore 4, 2) := by decide +kernel
theorem d18_19 : decode prog_22_method_5_code 19 = .ok (.aload 4, 2) := by decide +kernel
theorem d18_21 : decode prog_22_method_5_code 21 = .ok (.getfield 32, 3) := by decide +kernel
theorem d18_24 : decode prog_22_method_5_code 24 = .ok (.aload_n 0, 1) := by decide +kernel
theorem d18_25 : decode prog_22_method_5_code 25 = .ok (.invokevirtual 40, 3) := by decide +kernel
theorem d18_28 : decode prog_22_method_5_code 28 = .ok (.ifCond .eq 9, 3) := by decide +kernel
theorem d18_37 : decode prog_22_method_5_code 37 = .ok (.iinc 3 1, 3) := by decide +kernel
theorem d18_40 : decode prog_22_method_5_code 40 = .ok (.goto (-31), 3) := by decide +kernel
theorem d18_43 : decode prog_22_method_5_code 43 = .ok (.invokestatic 52, 3) := by decide +kernel
theorem d18_46 : decode prog_22_method_5_code 46 = .ok (.areturn, 1) := by decide +kernel
theorem ef_18 (m : MethodId)  : entryFrame m #[.null] 5 = mkF m 0 #[.val .null, .unset, .unset, .unset, .unset] [] := by first | (simp [entryFrame, mkF, argsToLocals, Value.category]; done) | rfl
def Q18 (Z : State) (u_EMPTY : Addr) (u__VALUES : Addr) (cl_u__VALUES : Cell) (u_RESPONSE_TIME : Addr) (u_THROUGHPUT : Addr) (u_COST : Addr) (u_RESPONSE_TIME_column : Addr) (u_RESPONSE_TIME_column_value : Addr) (cl_u_RESPONSE_TIME_column_value : Cell) (u_THROUGHPUT_column : Addr) (u_THROUGHPUT_column_value : Addr) (cl_u_THROUGHPUT_column_value : Cell) (u_COST_column : Addr) (u_COST_column_value : Addr) (cl_u_COST_column_value : Cell) (cs : Int32) (h0 : Heap) (n0 : Nat) (v : Option Value) (h : Heap) (L : List Loc) : Prop := v = some (.ref u_EMPTY) ∧ Fr n0 L ∧ Keep h0 h []
set_option maxRecDepth 65536 in
set_option maxHeartbeats 40000000 in
theorem rm18 (l : Launch) (Z : State) (a0 : Array Value) (hw : ∀ d ∈ tables_1, d.before a0 Z = true) (ws : List Jvm.Cond) (u_EMPTY : Addr) (u__VALUES : Addr) (cl_u__VALUES : Cell) (u_RESPONSE_TIME : Addr) (u_THROUGHPUT : Addr) (u_COST : Addr) (u_RESPONSE_TIME_column : Addr) (u_RESPONSE_TIME_column_value : Addr) (cl_u_RESPONSE_TIME_column_value : Cell) (u_THROUGHPUT_column : Addr) (u_THROUGHPUT_column_value : Addr) (cl_u_THROUGHPUT_column_value : Cell) (u_COST_column : Addr) (u_COST_column_value : Addr) (cl_u_COST_column_value : Cell) (cs : Int32) (h0 : Heap) (n0 : Nat) (Z0 : n0 ≤ h0.size) (S_EMPTY : Sta Z h0 "java/util/Optional" "EMPTY" "Ljava/util/Optional;" (.ref u_EMPTY)) (E_u_EMPTY : Exa Z h0 u_EMPTY "java/util/Optional") (F_u_EMPTY_value : Fld Z h0 u_EMPTY "java/util/Optional" "value" "Ljava/lang/Object;" .null) (S__VALUES : Sta Z h0 "com/example/leanweave/leanweave/QosMeasure" "$VALUES" "[Lcom/example/leanweave/leanweave/QosMeasure;" (.ref u__VALUES)) (E_u__VALUES : Exa Z h0 u__VALUES "[Lcom/example/leanweave/leanweave/QosMeasure;") (S_RESPONSE_TIME : Sta Z h0 "com/example/leanweave/leanweave/QosMeasure" "RESPONSE_TIME" "Lcom/example/leanweave/leanweave/QosMeasure;" (.ref u_RESPONSE_TIME)) (E_u_RESPONSE_TIME : Exa Z h0 u_RESPONSE_TIME "com/example/leanweave/leanweave/QosMeasure") (S_THROUGHPUT : Sta Z h0 "com/example/leanweave/leanweave/QosMeasure" "THROUGHPUT" "Lcom/example/leanweave/leanweave/QosMeasure;" (.ref u_THROUGHPUT)) (E_u_THROUGHPUT : Exa Z h0 u_THROUGHPUT "com/example/leanweave/leanweave/QosMeasure") (S_COST : Sta Z h0 "com/example/leanweave/leanweave/QosMeasure" "COST" "Lcom/example/leanweave/leanweave/QosMeasure;" (.ref u_COST)) (E_u_COST : Exa Z h0 u_COST "com/example/leanweave/leanweave/QosMeasure") (F_u_RESPONSE_TIME_column : Fld Z h0 u_RESPONSE_TIME "com/example/leanweave/leanweave/QosMeasure" "column" "Ljava/lang/String;" (.ref u_RESPONSE_TIME_column)) (E_u_RESPONSE_TIME_column : Exa Z h0 u_RESPONSE_TIME_column "java/lang/String") (F_u_RESPONSE_TIME_column_coder : Fld Z h0 u_RESPONSE_TIME_column "java/lang/String" "coder" "B" (.int (0 : Int32))) (F_u_RESPONSE_TIME_column_value : Fld Z h0 u_RESPONSE_TIME_column "java/lang/String" "value" "[B" (.ref u_RESPONSE_TIME_column_value)) (F_u_THROUGHPUT_column : Fld Z h0 u_THROUGHPUT "com/example/leanweave/leanweave/QosMeasure" "column" "Ljava/lang/String;" (.ref u_THROUGHPUT_column)) (E_u_THROUGHPUT_column : Exa Z h0 u_THROUGHPUT_column "java/lang/String") (F_u_THROUGHPUT_column_coder : Fld Z h0 u_THROUGHPUT_column "java/lang/String" "coder" "B" (.int (0 : Int32))) (F_u_THROUGHPUT_column_value : Fld Z h0 u_THROUGHPUT_column "java/lang/String" "value" "[B" (.ref u_THROUGHPUT_column_value)) (F_u_COST_column : Fld Z h0 u_COST "com/example/leanweave/leanweave/QosMeasure" "column" "Ljava/lang/String;" (.ref u_COST_column)) (E_u_COST_column : Exa Z h0 u_COST_column "java/lang/String") (F_u_COST_column_coder : Fld Z h0 u_COST_column "java/lang/String" "coder" "B" (.int (0 : Int32))) (F_u_COST_column_value : Fld Z h0 u_COST_column "java/lang/String" "value" "[B" (.ref u_COST_column_value)) (V_u__VALUES : Arv Z h0 u__VALUES cl_u__VALUES.cls (.object "com/example/leanweave/leanweave/QosMeasure") (3 : Int32) [(.ref u_RESPONSE_TIME), (.ref u_THROUGHPUT), (.ref u_COST)] .null) (V_u_RESPONSE_TIME_column_value : Arv Z h0 u_RESPONSE_TIME_column_value cl_u_RESPONSE_TIME_column_value.cls .byte (16 : Int32) [(.int (114 : Int32)), (.int (101 : Int32)), (.int (115 : Int32)), (.int (112 : Int32)), (.int (111 : Int32)), (.int (110 : Int32)), (.int (115 : Int32)), (.int (101 : Int32)), (.int (95 : Int32)), (.int (116 : Int32)), (.int (105 : Int32)), (.int (109 : Int32)), (.int (101 : Int32)), (.int (95 : Int32)), (.int (109 : Int32)), (.int (115 : Int32))] (.int (0 : Int32))) (V_u_THROUGHPUT_column_value : Arv Z h0 u_THROUGHPUT_column_value cl_u_THROUGHPUT_column_value.cls .byte (16 : Int32) [(.int (116 : Int32)), (.int (104 : Int32)), (.int (114 : Int32)), (.int (111 : Int32)), (.int (117 : Int32)), (.int (103 : Int32)), (.int (104 : Int32)), (.int (112 : Int32)), (.int (117 : Int32)), (.int (116 : Int32)), (.int (95 : Int32)), (.int (112 : Int32)), (.int (101 : Int32)), (.int (114 : Int32)), (.int (95 : Int32)), (.int (115 : Int32))] (.int (0 : Int32))) (V_u_COST_column_value : Arv Z h0 u_COST_column_value cl_u_COST_column_value.cls .byte (4 : Int32) [(.int (99 : Int32)), (.int (111 : Int32)), (.int (115 : Int32)), (.int (116 : Int32))] (.int (0 : Int32))) (Sc : Sta Z h0 "java/lang/String" "COMPACT_STRINGS" "Z" (.int cs)) (hcs : ¬ (cs = (0 : Int32))) :
    MetFree l (⟨"com/example/leanweave/leanweave/QosMeasure", "ofColumn", "(Ljava/lang/String;)Ljava/util/Optional;"⟩ : MethodName) (head1 (Jvm.Cond.code (⟨"com/example/leanweave/leanweave/QosMeasure", "ofColumn", "(Ljava/lang/String;)Ljava/util/Optional;"⟩ : MethodName) prog_22_method_5_code 5 (some (.object "java/util/Optional")) :: ws) ({ frames := 2, cells := 1, slots := 3, locals := 25 } : Room)) (fun a U => a = #[.null] ∧ Z.Warmed39 U.vm ∧ U.heap = h0) (fun _ _ _ _ _ => True) (fun _ U o U' => ∃ v L, o = .returned v ∧ Q18 Z u_EMPTY u__VALUES cl_u__VALUES u_RESPONSE_TIME u_THROUGHPUT u_COST u_RESPONSE_TIME_column u_RESPONSE_TIME_column_value cl_u_RESPONSE_TIME_column_value u_THROUGHPUT_column u_THROUGHPUT_column_value cl_u_THROUGHPUT_column_value u_COST_column u_COST_column_value cl_u_COST_column_value cs h0 n0 v U'.heap L ∧ FrameEnd U o U' L ({ frames := 2, cells := 1, slots := 3, locals := 25 } : Room).cells ({ frames := 2, cells := 1, slots := 3, locals := 25 } : Room).slots) := by
  refine MetFree.of_bodySF (plainFor_of_name pn_2) hisR ?_
  intro p e s m args below meth c s₁ Bd hml0 hP hK
  obtain ⟨rfl, hZ, hh⟩ := hP
  have hx := Bd.exec
  have hby := Bd.bytes
  have hml : c.maxLocals = 5 := hml0
  have hown : s.vm.findClass "com/example/leanweave/leanweave/QosMeasure" = some m.cls := findClass_of_methodNamed Bd.named
  have hnm := (name_of_methodNamed Bd.named Bd.method).1
  have X0 : Stand p l e ({ frames := 2, cells := 1, slots := 3, locals := 25 } : Room) s m #[.null] below meth c s₁ [] 0 0 := Stand.of_body Bd
  have e0 : s₁.heap = h0 := by rw [← hh, Bd.state]; rfl
  have N0 := Fr.nil n0
  have pre0 : ∀ t, Steps p.tables e below (s₁.setTop (mkF m 0 #[.val .null, .unset, .unset, .unset, .unset] [])) t → Steps p.tables e below (s₁.setTop (entryFrame m #[.null] 5)) t := fun t k => castTop (ef_18 m ) k
  obtain ⟨_, _, ⟨T1, L1, k1, n1⟩, -, X1, ⟨Lc1, hQ1, l1, y1, z1⟩, st1⟩ := Jvm.LawKit.callS X0 hx (y := (⟨"com/example/leanweave/leanweave/QosMeasure", "values", "()[Lcom/example/leanweave/leanweave/QosMeasure;"⟩ : MethodName)) hown (mvT hZ (wd hw 77 rfl)) (mvT hZ (wd hw 78 rfl)) (mvT hZ (wd hw 75 rfl)) (mvT hZ (wd hw 79 rfl)) (by decide) (backOf (W := 0) (rm5 l Z a0 hw [] u__VALUES cl_u__VALUES u_RESPONSE_TIME u_THROUGHPUT u_COST h0 n0 Z0 S__VALUES E_u__VALUES V_u__VALUES) hZ (wd hw 79 rfl) (wd hw 75 rfl) (by decide) (by decide)) (g := (mkF m 0 #[.val .null, .unset, .unset, .unset, .unset] [])) rfl (by rw [hml]; rfl) (argsL := []) (rest := []) (lenOf pd_6 rfl) rfl (by show 2 * 0 + _ ≤ _; exact Nat.le_of_eq rfl) (hb hby d18_0) (fun _ _ => ⟨rfl, e0, (by decide : 0 + 1 ≤ _), (by decide : 0 + 3 ≤ _)⟩)
  dsimp only [Pt.U, Pt.locs, Pt.cells, Pt.slots] at X1 l1 y1 z1 st1 hQ1
  rw [l1, y1, z1] at X1
  obtain ⟨v5_1, rfl, N1q, Kc1, ggv5_1, szv5_1, G1_0, G1_1⟩ := hQ1
  have ne2 : u_EMPTY ≠ v5_1 := Nat.ne_of_lt (Nat.lt_of_lt_of_le E_u_EMPTY.lt szv5_1)
  have ne3 : u__VALUES ≠ v5_1 := Nat.ne_of_lt (Nat.lt_of_lt_of_le E_u__VALUES.lt szv5_1)
  have ne4 : u_RESPONSE_TIME ≠ v5_1 := Nat.ne_of_lt (Nat.lt_of_lt_of_le E_u_RESPONSE_TIME.lt szv5_1)
  have ne5 : u_THROUGHPUT ≠ v5_1 := Nat.ne_of_lt (Nat.lt_of_lt_of_le E_u_THROUGHPUT.lt szv5_1)
  have ne6 : u_COST ≠ v5_1 := Nat.ne_of_lt (Nat.lt_of_lt_of_le E_u_COST.lt szv5_1)
  have ne7 : u_RESPONSE_TIME_column ≠ v5_1 := Nat.ne_of_lt (Nat.lt_of_lt_of_le E_u_RESPONSE_TIME_column.lt szv5_1)
  have ne8 : u_THROUGHPUT_column ≠ v5_1 := Nat.ne_of_lt (Nat.lt_of_lt_of_le E_u_THROUGHPUT_column.lt szv5_1)
  have ne9 : u_COST_column ≠ v5_1 := Nat.ne_of_lt (Nat.lt_of_lt_of_le E_u_COST_column.lt szv5_1)
  have ne10 : u_RESPONSE_TIME_column_value ≠ v5_1 := Nat.ne_of_lt (Nat.lt_of_lt_of_le V_u_RESPONSE_TIME_column_value.lt szv5_1)
  have ne11 : u_THROUGHPUT_column_value ≠ v5_1 := Nat.ne_of_lt (Nat.lt_of_lt_of_le V_u_THROUGHPUT_column_value.lt szv5_1)
  have ne12 : u_COST_column_value ≠ v5_1 := Nat.ne_of_lt (Nat.lt_of_lt_of_le V_u_COST_column_value.lt szv5_1)
  have szzv5_1 : h0.size ≤ v5_1 := Nat.le_trans (Keep.refl h0 []).1 szv5_1
  have Zs1 : n0 ≤ T1.heap.size := Nat.le_trans Z0 Kc1.1
  have K1 : Keep h0 T1.heap [] := (Keep.refl h0 []).trans Kc1 all0
  have F13 := own_stakeep S_EMPTY Kc1 all0
  have F14 := E_u_EMPTY.keep Kc1
  have F15 := F_u_EMPTY_value.keep Kc1 nin0
  have F16 := own_stakeep S__VALUES Kc1 all0
  have F17 := E_u__VALUES.keep Kc1
  have F18 := own_stakeep S_RESPONSE_TIME Kc1 all0
  have F19 := E_u_RESPONSE_TIME.keep Kc1
  have F20 := own_stakeep S_THROUGHPUT Kc1 all0
  have F21 := E_u_THROUGHPUT.keep Kc1
  have F22 := own_stakeep S_COST Kc1 all0
  have F23 := E_u_COST.keep Kc1
  have F24 := F_u_RESPONSE_TIME_column.keep Kc1 nin0
  have F25 := E_u_RESPONSE_TIME_column.keep Kc1
  have F26 := F_u_RESPONSE_TIME_column_coder.keep Kc1 nin0
  have F27 := F_u_RESPONSE_TIME_column_value.keep Kc1 nin0
  have F28 := F_u_THROUGHPUT_column.keep Kc1 nin0
  have F29 := E_u_THROUGHPUT_column.keep Kc1
  have F30 := F_u_THROUGHPUT_column_coder.keep Kc1 nin0
  have F31 := F_u_THROUGHPUT_column_value.keep Kc1 nin0
  have F32 := F_u_COST_column.keep Kc1 nin0
  have F33 := E_u_COST_column.keep Kc1
  have F34 := F_u_COST_column_coder.keep Kc1 nin0
  have F35 := F_u_COST_column_value.keep Kc1 nin0
  have F36 := V_u__VALUES.keep Kc1 nin0
  have F37 := V_u_RESPONSE_TIME_column_value.keep Kc1 nin0
  have F38 := V_u_THROUGHPUT_column_value.keep Kc1 nin0
  have F39 := V_u_COST_column_value.keep Kc1 nin0
  have F40 := own_stakeep Sc Kc1 all0
  have N1 := Fr.app N0 N1q
  obtain ⟨cl41, Ar41, qc41, Sz41, Nn41, Hh41, Gg41⟩ := (id G1_0)
  obtain ⟨cl42, Ar42, qc42, Sz42, Nn42, Hh42, Gg42⟩ := (id G1_0)
  have hin42 : ¬ ((0 : Int32) < 0 ∨ cl42.slots.size ≤ ((0 : Int32)).toNatClampNeg) := inb_of Sz42 ⟨by decide, by decide⟩
  obtain ⟨T43, X43, e43, st43⟩ := getF X1 hx hZ hown (host := "") (Or.inl (wd hw 95 rfl)) Via.refl rfl F24 (g := (mkF m 21 #[.val .null, .val (.ref v5_1), .val (.int (3 : Int32)), .val (.int (0 : Int32)), .val (.ref u_RESPONSE_TIME)] [(.ref u_RESPONSE_TIME)])) rfl rfl (hb hby d18_21)
  obtain ⟨cq44, kq44, q44a, q44b, q44c⟩ := isOf hZ e43 F25
  obtain ⟨_, _, ⟨T44, L44, k44, n44⟩, -, X44, ⟨Lc44, hQ44, l44, y44, z44⟩, st44⟩ := X43.virtualBack hx (y := (⟨"java/lang/String", "equals", "(Ljava/lang/Object;)Z"⟩ : MethodName)) (z := (⟨"java/lang/String", "equals", "(Ljava/lang/Object;)Z"⟩ : MethodName)) hown (mvT hZ (wd hw 97 rfl)) (mvT hZ (wd hw 98 rfl)) (notFace_of_selects (args := #[]) (mvT hZ (wd hw 100 rfl))) (mvT hZ (wd hw 100 rfl)) (mvT hZ (wd hw 99 rfl)) (by decide) (backOf (W := 0) (rm13 l Z a0 hw [] u_RESPONSE_TIME_column T1.heap n0 Zs1 ) hZ (wd hw 101 rfl) (wd hw 2 rfl) (by decide) (by decide)) q44a q44c (g := (mkF m 25 #[.val .null, .val (.ref v5_1), .val (.int (3 : Int32)), .val (.int (0 : Int32)), .val (.ref u_RESPONSE_TIME)] [.null, (.ref u_RESPONSE_TIME_column)])) rfl (by rw [hml]; rfl) (Steps.refl _) (argsL := [.null]) (rest := []) (lenOf pd_7 rfl) rfl (by show 2 * 0 + _ ≤ _; exact Nat.le_of_eq rfl) (hb hby d18_25) (fun _ _ => ⟨rfl, e43, (by decide : 1 + 0 ≤ _), (by decide : 3 + 0 ≤ _)⟩)
  dsimp only [Pt.U, Pt.locs, Pt.cells, Pt.slots] at X44 l44 y44 z44 st44 hQ44
  rw [l44, y44, z44] at X44
  obtain ⟨rfl, N44q, eh44⟩ := hQ44
  have N44 := Fr.app N1 N44q
  obtain ⟨cl45, Ar45, qc45, Sz45, Nn45, Hh45, Gg45⟩ := (id G1_0)
  have hin45 : ¬ ((1 : Int32) < 0 ∨ cl45.slots.size ≤ ((1 : Int32)).toNatClampNeg) := inb_of Sz45 ⟨by decide, by decide⟩
  obtain ⟨T46, X46, e46, st46⟩ := getF X44 hx hZ hown (host := "") (Or.inl (wd hw 95 rfl)) Via.refl eh44 F28 (g := (mkF m 21 #[.val .null, .val (.ref v5_1), .val (.int (3 : Int32)), .val (.int (1 : Int32)), .val (.ref u_THROUGHPUT)] [(.ref u_THROUGHPUT)])) rfl rfl (hb hby d18_21)
  obtain ⟨cq47, kq47, q47a, q47b, q47c⟩ := isOf hZ e46 F29
  obtain ⟨_, _, ⟨T47, L47, k47, n47⟩, -, X47, ⟨Lc47, hQ47, l47, y47, z47⟩, st47⟩ := X46.virtualBack hx (y := (⟨"java/lang/String", "equals", "(Ljava/lang/Object;)Z"⟩ : MethodName)) (z := (⟨"java/lang/String", "equals", "(Ljava/lang/Object;)Z"⟩ : MethodName)) hown (mvT hZ (wd hw 97 rfl)) (mvT hZ (wd hw 98 rfl)) (notFace_of_selects (args := #[]) (mvT hZ (wd hw 100 rfl))) (mvT hZ (wd hw 100 rfl)) (mvT hZ (wd hw 99 rfl)) (by decide) (backOf (W := 0) (rm13 l Z a0 hw [] u_THROUGHPUT_column T1.heap n0 Zs1 ) hZ (wd hw 101 rfl) (wd hw 2 rfl) (by decide) (by decide)) q47a q47c (g := (mkF m 25 #[.val .null, .val (.ref v5_1), .val (.int (3 : Int32)), .val (.int (1 : Int32)), .val (.ref u_THROUGHPUT)] [.null, (.ref u_THROUGHPUT_column)])) rfl (by rw [hml]; rfl) (Steps.refl _) (argsL := [.null]) (rest := []) (lenOf pd_7 rfl) rfl (by show 2 * 0 + _ ≤ _; exact Nat.le_of_eq rfl) (hb hby d18_25) (fun _ _ => ⟨rfl, e46, (by decide : 1 + 0 ≤ _), (by decide : 3 + 0 ≤ _)⟩)
  dsimp only [Pt.U, Pt.locs, Pt.cells, Pt.slots] at X47 l47 y47 z47 st47 hQ47
  rw [l47, y47, z47] at X47
  obtain ⟨rfl, N47q, eh47⟩ := hQ47
  have N47 := Fr.app N44 N47q
  obtain ⟨cl48, Ar48, qc48, Sz48, Nn48, Hh48, Gg48⟩ := (id G1_0)
  have hin48 : ¬ ((2 : Int32) < 0 ∨ cl48.slots.size ≤ ((2 : Int32)).toNatClampNeg) := inb_of Sz48 ⟨by decide, by decide⟩
  obtain ⟨T49, X49, e49, st49⟩ := getF X47 hx hZ hown (host := "") (Or.inl (wd hw 95 rfl)) Via.refl eh47 F32 (g := (mkF m 21 #[.val .null, .val (.ref v5_1), .val (.int (3 : Int32)), .val (.int (2 : Int32)), .val (.ref u_COST)] [(.ref u_COST)])) rfl rfl (hb hby d18_21)
  obtain ⟨cq50, kq50, q50a, q50b, q50c⟩ := isOf hZ e49 F33
  obtain ⟨_, _, ⟨T50, L50, k50, n50⟩, -, X50, ⟨Lc50, hQ50, l50, y50, z50⟩, st50⟩ := X49.virtualBack hx (y := (⟨"java/lang/String", "equals", "(Ljava/lang/Object;)Z"⟩ : MethodName)) (z := (⟨"java/lang/String", "equals", "(Ljava/lang/Object;)Z"⟩ : MethodName)) hown (mvT hZ (wd hw 97 rfl)) (mvT hZ (wd hw 98 rfl)) (notFace_of_selects (args := #[]) (mvT hZ (wd hw 100 rfl))) (mvT hZ (wd hw 100 rfl)) (mvT hZ (wd hw 99 rfl)) (by decide) (backOf (W := 0) (rm13 l Z a0 hw [] u_COST_column T1.heap n0 Zs1 ) hZ (wd hw 101 rfl) (wd hw 2 rfl) (by decide) (by decide)) q50a q50c (g := (mkF m 25 #[.val .null, .val (.ref v5_1), .val (.int (3 : Int32)), .val (.int (2 : Int32)), .val (.ref u_COST)] [.null, (.ref u_COST_column)])) rfl (by rw [hml]; rfl) (Steps.refl _) (argsL := [.null]) (rest := []) (lenOf pd_7 rfl) rfl (by show 2 * 0 + _ ≤ _; exact Nat.le_of_eq rfl) (hb hby d18_25) (fun _ _ => ⟨rfl, e49, (by decide : 1 + 0 ≤ _), (by decide : 3 + 0 ≤ _)⟩)
  dsimp only [Pt.U, Pt.locs, Pt.cells, Pt.slots] at X50 l50 y50 z50 st50 hQ50
  rw [l50, y50, z50] at X50
  obtain ⟨rfl, N50q, eh50⟩ := hQ50
  have N50 := Fr.app N47 N50q
  obtain ⟨_, _, ⟨T51, L51, k51, n51⟩, -, X51, ⟨Lc51, hQ51, l51, y51, z51⟩, st51⟩ := Jvm.LawKit.callS X50 hx (y := (⟨"java/util/Optional", "empty", "()Ljava/util/Optional;"⟩ : MethodName)) hown (mvT hZ (wd hw 106 rfl)) (mvT hZ (wd hw 107 rfl)) (mvT hZ (wd hw 108 rfl)) (mvT hZ (wd hw 109 rfl)) (by decide) (backOf (W := 0) (rm10 l Z a0 hw [] u_EMPTY T1.heap n0 Zs1 F13) hZ (wd hw 109 rfl) (wd hw 108 rfl) (by decide) (by decide)) (g := (mkF m 43 #[.val .null, .val (.ref v5_1), .val (.int (3 : Int32)), .val (.int (3 : Int32)), .val (.ref u_COST)] [])) rfl (by rw [hml]; rfl) (argsL := []) (rest := []) (lenOf pd_9 rfl) rfl (by show 2 * 0 + _ ≤ _; exact Nat.le_of_eq rfl) (hb hby d18_43) (fun _ _ => ⟨rfl, eh50, (by decide : 1 + 0 ≤ _), (by decide : 3 + 0 ≤ _)⟩)
  dsimp only [Pt.U, Pt.locs, Pt.cells, Pt.slots] at X51 l51 y51 z51 st51 hQ51
  rw [l51, y51, z51] at X51
  obtain ⟨rfl, N51q, eh51⟩ := hQ51
  have N51 := Fr.app N50 N51q
  have k52 : ∀ t, Steps p.tables e below (T51.setTop (mkF m 46 #[.val .null, .val (.ref v5_1), .val (.int (3 : Int32)), .val (.int (3 : Int32)), .val (.ref u_COST)] [(.ref u_EMPTY)])) t → Steps p.tables e below (s₁.setTop (entryFrame m #[.null] 5)) t := by
    intro t k
    refine pre0 t ?_
    refine st1 _ ?_
    refine XS.astoreN X1.here hx rfl (hb hby d18_3) rfl rfl (l' := #[.val .null, .val (.ref v5_1), .unset, .unset, .unset]) rfl ?_
    refine XS.aloadN X1.here hx rfl (hb hby d18_4) rfl rfl ?_
    refine X1.arraylength hx Ar41.1 (State.isArrayOf_alike hZ.alike Ar41.2.1) (g := (mkF m 5 #[.val .null, .val (.ref v5_1), .unset, .unset, .unset] [(.ref v5_1)])) rfl rfl (hb hby d18_5) _ ?_
    rw [len_of Sz41 Nn41]
    refine XS.istoreN X1.here hx rfl (hb hby d18_6) rfl (l' := #[.val .null, .val (.ref v5_1), .val (.int (3 : Int32)), .unset, .unset]) rfl ?_
    refine XS.iconst X1.here hx rfl (hb hby d18_7) ?_
    refine XS.istoreN X1.here hx rfl (hb hby d18_8) rfl (l' := #[.val .null, .val (.ref v5_1), .val (.int (3 : Int32)), .val (.int (0 : Int32)), .unset]) rfl ?_
    refine XS.iloadN X1.here hx rfl (hb hby d18_9) rfl ?_
    refine XS.iloadN X1.here hx rfl (hb hby d18_10) rfl ?_
    refine XS.icmpNo X1.here hx rfl (hb hby d18_11) rfl (tlt (by decide : (0 : Int32) < (3 : Int32))).2.1 ?_
    refine XS.aloadN X1.here hx rfl (hb hby d18_14) rfl rfl ?_
    refine XS.iloadN X1.here hx rfl (hb hby d18_15) rfl ?_
    refine X1.aaload hx (j := (0 : Int32)) (v := (.ref u_RESPONSE_TIME)) Ar42.1 (State.isArrayOf_alike hZ.alike Ar42.2.1) rfl Ar42.2.2 hin42 (Hh42.at hin42 rfl) (g := (mkF m 16 #[.val .null, .val (.ref v5_1), .val (.int (3 : Int32)), .val (.int (0 : Int32)), .unset] [(.int (0 : Int32)), (.ref v5_1)])) rfl rfl (hb hby d18_16) _ ?_
    refine XS.astore X1.here hx rfl (hb hby d18_17) rfl rfl (l' := #[.val .null, .val (.ref v5_1), .val (.int (3 : Int32)), .val (.int (0 : Int32)), .val (.ref u_RESPONSE_TIME)]) rfl ?_
    refine XS.aload X1.here hx rfl (hb hby d18_19) rfl rfl ?_
    refine st43 _ ?_
    refine XS.aloadN X43.here hx rfl (hb hby d18_24) rfl rfl ?_
    show Steps p.tables e below (T43.setTop (mkF m 25 #[.val .null, .val (.ref v5_1), .val (.int (3 : Int32)), .val (.int (0 : Int32)), .val (.ref u_RESPONSE_TIME)] [.null, (.ref u_RESPONSE_TIME_column)])) _
    refine st44.trans ?_
    refine XS.ifYes X44.here hx rfl (pc0 := 28) (pc' := 37) rfl (hb hby d18_28) rfl ((if0 _ _).trans (teq (by decide : (0 : Int32) = (0 : Int32))).1) (by decide) (by decide) ?_
    refine XS.iinc X44.here hx rfl (hb hby d18_37) rfl (l' := #[.val .null, .val (.ref v5_1), .val (.int (3 : Int32)), .val (.int (1 : Int32)), .val (.ref u_RESPONSE_TIME)]) rfl ?_
    refine XS.goto X44.here hx rfl (pc0 := 40) (pc' := 9) rfl (hb hby d18_40) (by decide) (by decide) ?_
    refine XS.iloadN X44.here hx rfl (hb hby d18_9) rfl ?_
    refine XS.iloadN X44.here hx rfl (hb hby d18_10) rfl ?_
    refine XS.icmpNo X44.here hx rfl (hb hby d18_11) rfl (tlt (by decide : (1 : Int32) < (3 : Int32))).2.1 ?_
    refine XS.aloadN X44.here hx rfl (hb hby d18_14) rfl rfl ?_
    refine XS.iloadN X44.here hx rfl (hb hby d18_15) rfl ?_
    refine X44.aaload hx (j := (1 : Int32)) (v := (.ref u_THROUGHPUT)) (by rw [eh44]; exact Ar45.1) (State.isArrayOf_alike hZ.alike Ar45.2.1) rfl Ar45.2.2 hin45 (Hh45.at hin45 rfl) (g := (mkF m 16 #[.val .null, .val (.ref v5_1), .val (.int (3 : Int32)), .val (.int (1 : Int32)), .val (.ref u_RESPONSE_TIME)] [(.int (1 : Int32)), (.ref v5_1)])) rfl rfl (hb hby d18_16) _ ?_
    refine XS.astore X44.here hx rfl (hb hby d18_17) rfl rfl (l' := #[.val .null, .val (.ref v5_1), .val (.int (3 : Int32)), .val (.int (1 : Int32)), .val (.ref u_THROUGHPUT)]) rfl ?_
    refine XS.aload X44.here hx rfl (hb hby d18_19) rfl rfl ?_
    refine st46 _ ?_
    refine XS.aloadN X46.here hx rfl (hb hby d18_24) rfl rfl ?_
    refine st47.trans ?_
    refine XS.ifYes X47.here hx rfl (pc0 := 28) (pc' := 37) rfl (hb hby d18_28) rfl ((if0 _ _).trans (teq (by decide : (0 : Int32) = (0 : Int32))).1) (by decide) (by decide) ?_
    refine XS.iinc X47.here hx rfl (hb hby d18_37) rfl (l' := #[.val .null, .val (.ref v5_1), .val (.int (3 : Int32)), .val (.int (2 : Int32)), .val (.ref u_THROUGHPUT)]) rfl ?_
    refine XS.goto X47.here hx rfl (pc0 := 40) (pc' := 9) rfl (hb hby d18_40) (by decide) (by decide) ?_
    show Steps p.tables e below (T47.setTop (mkF m 9 #[.val .null, .val (.ref v5_1), .val (.int (3 : Int32)), .val (.int (2 : Int32)), .val (.ref u_THROUGHPUT)] [])) _
    refine XS.iloadN X47.here hx rfl (hb hby d18_9) rfl ?_
    refine XS.iloadN X47.here hx rfl (hb hby d18_10) rfl ?_
    refine XS.icmpNo X47.here hx rfl (hb hby d18_11) rfl (tlt (by decide : (2 : Int32) < (3 : Int32))).2.1 ?_
    refine XS.aloadN X47.here hx rfl (hb hby d18_14) rfl rfl ?_
    refine XS.iloadN X47.here hx rfl (hb hby d18_15) rfl ?_
    refine X47.aaload hx (j := (2 : Int32)) (v := (.ref u_COST)) (by rw [eh47]; exact Ar48.1) (State.isArrayOf_alike hZ.alike Ar48.2.1) rfl Ar48.2.2 hin48 (Hh48.at hin48 rfl) (g := (mkF m 16 #[.val .null, .val (.ref v5_1), .val (.int (3 : Int32)), .val (.int (2 : Int32)), .val (.ref u_THROUGHPUT)] [(.int (2 : Int32)), (.ref v5_1)])) rfl rfl (hb hby d18_16) _ ?_
    refine XS.astore X47.here hx rfl (hb hby d18_17) rfl rfl (l' := #[.val .null, .val (.ref v5_1), .val (.int (3 : Int32)), .val (.int (2 : Int32)), .val (.ref u_COST)]) rfl ?_
    refine XS.aload X47.here hx rfl (hb hby d18_19) rfl rfl ?_
    refine st49 _ ?_
    refine XS.aloadN X49.here hx rfl (hb hby d18_24) rfl rfl ?_
    refine st50.trans ?_
    refine XS.ifYes X50.here hx rfl (pc0 := 28) (pc' := 37) rfl (hb hby d18_28) rfl ((if0 _ _).trans (teq (by decide : (0 : Int32) = (0 : Int32))).1) (by decide) (by decide) ?_
    refine XS.iinc X50.here hx rfl (hb hby d18_37) rfl (l' := #[.val .null, .val (.ref v5_1), .val (.int (3 : Int32)), .val (.int (3 : Int32)), .val (.ref u_COST)]) rfl ?_
    refine XS.goto X50.here hx rfl (pc0 := 40) (pc' := 9) rfl (hb hby d18_40) (by decide) (by decide) ?_
    refine XS.iloadN X50.here hx rfl (hb hby d18_9) rfl ?_
    refine XS.iloadN X50.here hx rfl (hb hby d18_10) rfl ?_
    refine XS.icmpYes X50.here hx rfl (pc0 := 11) (pc' := 43) rfl (hb hby d18_11) rfl (flt (by decide : ¬ ((3 : Int32) < (3 : Int32)))).2.1 (by decide) (by decide) ?_
    refine st51 _ ?_
    exact k
  obtain ⟨fs, hr, hrun, hended, hW, hsame⟩ := X51.leave (v := some (.ref u_EMPTY)) (fun h => by rw [Bd.returns] at h; cases h)
  refine ⟨_, _, k52 _ ?_, hrun, hended, _, _, rfl, ?_, ⟨_, rfl⟩, hW, hsame.mono (by decide) (by decide)⟩
  · exact retOut X51 hx Bd.returns rfl (Or.inr (Or.inr (Or.inr (Or.inr ⟨rfl, rfl, rfl⟩)))) (hb hby d18_46) hr
  · show Q18 Z u_EMPTY u__VALUES cl_u__VALUES u_RESPONSE_TIME u_THROUGHPUT u_COST u_RESPONSE_TIME_column u_RESPONSE_TIME_column_value cl_u_RESPONSE_TIME_column_value u_THROUGHPUT_column u_THROUGHPUT_column_value cl_u_THROUGHPUT_column_value u_COST_column u_COST_column_value cl_u_COST_column_value cs h0 n0 _ T51.heap _
    rw [eh51]
    exact ⟨rfl, N51, K1⟩
theorem d19_0 : decode method_3_code 0 = .ok (.aload_n 0, 1) := by decide +kernel
theorem d19_1 : decode method_3_code 1 = .ok (.ifnonnull 5, 3) := by decide +kernel
theorem d19_6 : decode method_3_code 6 = .ok (.aload_n 0, 1) := by decide +kernel
theorem d19_7 : decode method_3_code 7 = .ok (.ldc 13, 2) := by decide +kernel
theorem d19_9 : decode method_3_code 9 = .ok (.invokevirtual 45, 3) := by decide +kernel
theorem d19_12 : decode method_3_code 12 = .ok (.ifCond .eq 7, 3) := by decide +kernel
theorem d19_15 : decode method_3_code 15 = .ok (.getstatic 49, 3) := by decide +kernel
theorem d19_18 : decode method_3_code 18 = .ok (.areturn, 1) := by decide +kernel
theorem ef_19 (m : MethodId) (a19_0 : Addr) : entryFrame m #[(.ref a19_0)] 1 = mkF m 0 #[.val (.ref a19_0)] [] := by first | (simp [entryFrame, mkF, argsToLocals, Value.category]; done) | rfl
def Q19 (Z : State) (a19_0 : Addr) (u_RESPONSE_TIME : Addr) (u_THROUGHPUT : Addr) (u_COST : Addr) (cs : Int32) (ta : Addr) (kt : ClassId) (nz : Int32) (la : List Int32) (h0 : Heap) (n0 : Nat) (v : Option Value) (h : Heap) (L : List Loc) : Prop := v = some (.ref u_RESPONSE_TIME) ∧ Fr n0 L ∧ Keep h0 h []
set_option maxRecDepth 65536 in
set_option maxHeartbeats 40000000 in
theorem rm19 (l : Launch) (Z : State) (a0 : Array Value) (hw : ∀ d ∈ tables_1, d.before a0 Z = true) (ws : List Jvm.Cond) (hEL : EW Z a0 consts_1) (wS : ∀ a ∈ Bundle.stringAtoms, a.before a0 Z = true) (a19_0 : Addr) (u_RESPONSE_TIME : Addr) (u_THROUGHPUT : Addr) (u_COST : Addr) (cs : Int32) (ta : Addr) (kt : ClassId) (nz : Int32) (la : List Int32) (h0 : Heap) (n0 : Nat) (Z0 : n0 ≤ h0.size) (S_RESPONSE_TIME : Sta Z h0 "com/example/leanweave/leanweave/QosMeasure" "RESPONSE_TIME" "Lcom/example/leanweave/leanweave/QosMeasure;" (.ref u_RESPONSE_TIME)) (S_THROUGHPUT : Sta Z h0 "com/example/leanweave/leanweave/QosMeasure" "THROUGHPUT" "Lcom/example/leanweave/leanweave/QosMeasure;" (.ref u_THROUGHPUT)) (S_COST : Sta Z h0 "com/example/leanweave/leanweave/QosMeasure" "COST" "Lcom/example/leanweave/leanweave/QosMeasure;" (.ref u_COST)) (Sc : Sta Z h0 "java/lang/String" "COMPACT_STRINGS" "Z" (.int cs)) (Es : Exa Z h0 a19_0 "java/lang/String") (Fs : Fld Z h0 a19_0 "java/lang/String" "value" "[B" (.ref ta)) (Fz : Fld Z h0 a19_0 "java/lang/String" "coder" "B" (.int (0 : Int32))) (Vs : Arv Z h0 ta kt .byte nz (List.map Value.int (List.map (fun c => c.toInt8.toInt32) la)) (.int (0 : Int32))) (hcs : ¬ (cs = (0 : Int32))) (hnz : nz = Int32.ofNat la.length) (hb_la : ∀ c ∈ la, ¬ c < 0 ∧ ¬ (255 : Int32) < c) (hl_la : la.length ≤ 4000) (hyR : la = own_LR) :
    MetFree l (⟨"com/example/leanweave/leanweave/QosMeasureOfColumnPinLaw", "ref", "(Ljava/lang/String;)Lcom/example/leanweave/leanweave/QosMeasure;"⟩ : MethodName) (head1 (Jvm.Cond.code (⟨"com/example/leanweave/leanweave/QosMeasureOfColumnPinLaw", "ref", "(Ljava/lang/String;)Lcom/example/leanweave/leanweave/QosMeasure;"⟩ : MethodName) method_3_code 1 (some (.object "com/example/leanweave/leanweave/QosMeasure")) :: ws) ({ frames := 2, cells := 2, slots := 68, locals := 28 } : Room)) (fun a U => a = #[(.ref a19_0)] ∧ Z.Warmed39 U.vm ∧ U.heap = h0 ∧ CHv Z consts_1 U.vm h0) (fun _ _ _ _ _ => True) (fun _ U o U' => ∃ v L, o = .returned v ∧ Q19 Z a19_0 u_RESPONSE_TIME u_THROUGHPUT u_COST cs ta kt nz la h0 n0 v U'.heap L ∧ CHr Z consts_1 U.vm U.heap U'.vm U'.heap ∧ ReturnedEndW U o U' L ({ frames := 2, cells := 2, slots := 68, locals := 28 } : Room).cells ({ frames := 2, cells := 2, slots := 68, locals := 28 } : Room).slots) := by
  refine MetFree.of_bodySF (plainFor_of_name pn_1) hisR ?_
  intro p e s m args below meth c s₁ Bd hml0 hP hK
  obtain ⟨rfl, hZ, hh, hCH⟩ := hP
  have hx := Bd.exec
  have hby := Bd.bytes
  have hml : c.maxLocals = 1 := hml0
  have hown : s.vm.findClass "com/example/leanweave/leanweave/QosMeasureOfColumnPinLaw" = some m.cls := findClass_of_methodNamed Bd.named
  have hnm := (name_of_methodNamed Bd.named Bd.method).1
  have X0 : Stand p l e ({ frames := 2, cells := 2, slots := 68, locals := 28 } : Room) (s.setVm s.vm) m #[(.ref a19_0)] below meth c s₁ [] 0 0 := Stand.of_body Bd
  have e0 : s₁.heap = h0 := by rw [← hh, Bd.state]; rfl
  have N0 := Fr.nil n0
  have hS : s.Since s.vm h0.size := (State.WarmedH.refl s).since _
  have hk : h0.size ≤ h0.size := Nat.le_refl _
  have hCR : CHr Z consts_1 s.vm h0 s.vm h0 := CHr.refl hCH
  have pre0 : ∀ t, Steps p.tables e below (s₁.setTop (mkF m 0 #[.val (.ref a19_0)] [])) t → Steps p.tables e below (s₁.setTop (entryFrame m #[(.ref a19_0)] 1)) t := fun t k => castTop (ef_19 m a19_0) k
  obtain ⟨b1, T1, h1, k1, d1, kb1, X1, e1, E1, hS, hk, hZ, hown, Ex1, Fc1, Fv1, V1, lta1, ltb1, hC1, hL1, hsf1, st1⟩ := ldcCH X0 hx hZ hown (wd hw 1 rfl) wS e0 hS hk hEL (List.mem_of_getElem? (i := 0) rfl) hCR.1 (vs := [(.int (114 : Int32)), (.int (101 : Int32)), (.int (115 : Int32)), (.int (112 : Int32)), (.int (111 : Int32)), (.int (110 : Int32)), (.int (115 : Int32)), (.int (101 : Int32)), (.int (95 : Int32)), (.int (116 : Int32)), (.int (105 : Int32)), (.int (109 : Int32)), (.int (101 : Int32)), (.int (95 : Int32)), (.int (109 : Int32)), (.int (115 : Int32))]) (z := (16 : Int32)) ⟨by decide, rfl⟩ (by decide) rfl (g := (mkF m 7 #[.val (.ref a19_0)] [(.ref a19_0)])) rfl (hb hby d19_7) (n := 64) (by decide) (by decide) (by decide) (by decide)
  have hCR := hCR.trans hC1
  have Zs1 : n0 ≤ h1.size := Nat.le_trans Z0 E1.1
  have K1 : Keep h0 h1 [] := (Keep.refl h0 []).ext E1
  have F2 := S_RESPONSE_TIME.ext E1
  have F3 := S_THROUGHPUT.ext E1
  have F4 := S_COST.ext E1
  have F5 := Sc.ext E1
  have F6 := Es.ext E1
  have F7 := Fs.ext E1
  have F8 := Fz.ext E1
  have F9 := Vs.ext E1
  obtain ⟨cq10, kq10, q10a, q10b, q10c⟩ := isOf hZ e1 F6
  obtain ⟨_, _, ⟨T10, L10, k10, n10⟩, -, X10, ⟨Lc10, hQ10, l10, y10, z10⟩, st10⟩ := X1.virtualBack hx (y := (⟨"java/lang/String", "equals", "(Ljava/lang/Object;)Z"⟩ : MethodName)) (z := (⟨"java/lang/String", "equals", "(Ljava/lang/Object;)Z"⟩ : MethodName)) hown (mvT hZ (wd hw 121 rfl)) (mvT hZ (wd hw 98 rfl)) (notFace_of_selects (args := #[]) (mvT hZ (wd hw 100 rfl))) (mvT hZ (wd hw 100 rfl)) (mvT hZ (wd hw 99 rfl)) (by decide) (StrChars.Road.eqW (W := 0) hZ (fun d hd => hw d (own_sub_eqW d hd)) (kI := 4) (wd hw 3 rfl) (cs := la) F6 F7 F8 F9 (own_codG hnz hb_la) (own_u16 hb_la) hl_la (ds := own_LR) Ex1 Fv1 Fc1 V1 own_codR own_bdR (by decide) F5 hcs (by decide) (by decide)) q10a q10c (g := (mkF m 9 #[.val (.ref a19_0)] [(.ref b1), (.ref a19_0)])) rfl (by rw [hml]; rfl) (Steps.refl _) (argsL := [(.ref b1)]) (rest := []) (lenOf pd_7 rfl) rfl (by show 2 * 0 + _ ≤ _; exact Nat.le_of_eq rfl) (hb hby d19_9) (fun _ _ => ⟨rfl, e1, (by decide : 2 + 0 ≤ _), (by decide : 68 + 0 ≤ _)⟩)
  dsimp only [Pt.U, Pt.locs, Pt.cells, Pt.slots] at X10 l10 y10 z10 st10 hQ10
  rw [l10, y10, z10] at X10
  obtain ⟨hor10, rfl, eh10⟩ := hQ10
  have N10 := Fr.app N0 (Fr.nil n0)
  have hov10 := own_orT hor10 hyR
  subst hov10
  obtain ⟨T11, X11, e11, st11⟩ := getS2 X10 hx hZ hown (host := "") (Or.inl (wd hw 140 rfl)) Via.refl eh10 F2 (g := (mkF m 15 #[.val (.ref a19_0)] [])) rfl (hb hby d19_15)
  have k12 : ∀ t, Steps p.tables e below (T11.setTop (mkF m 18 #[.val (.ref a19_0)] [(.ref u_RESPONSE_TIME)])) t → Steps p.tables e below (s₁.setTop (entryFrame m #[(.ref a19_0)] 1)) t := by
    intro t k
    refine pre0 t ?_
    refine XS.aloadN X0.here hx rfl (hb hby d19_0) rfl rfl ?_
    refine XS.ifnonnullYes X0.here hx rfl (pc0 := 1) (pc' := 6) rfl (hb hby d19_1) rfl (by decide) (by decide) ?_
    refine XS.aloadN X0.here hx rfl (hb hby d19_6) rfl rfl ?_
    refine st1 _ ?_
    refine st10.trans ?_
    refine XS.ifNo X10.here hx rfl (hb hby d19_12) rfl ((if0 _ _).trans (feq (by decide : ¬ ((1 : Int32) = (0 : Int32)))).1) ?_
    refine st11 _ ?_
    exact k
  obtain ⟨fs, hr, hrun, hended, hE1, hE2, hE3, hE4⟩ := X11.leaveW hS (by rw [e11]; exact hk) (v := some (.ref u_RESPONSE_TIME)) (fun h => by rw [Bd.returns] at h; cases h)
  have hCE := hCR.trans (CHv.at X11 hZ hEL hCR.1)
  refine ⟨_, _, k12 _ ?_, hrun, hended, _, _, rfl, ?_, (by show CHr Z consts_1 s.vm s.heap T11.vm T11.heap; rw [hh, e11]; exact hCE), ⟨_, rfl⟩, hE2, hE3, hE4.mono (by decide) (by decide)⟩
  · exact retOut X11 hx Bd.returns rfl (Or.inr (Or.inr (Or.inr (Or.inr ⟨rfl, rfl, rfl⟩)))) (hb hby d19_18) hr
  · show Q19 Z a19_0 u_RESPONSE_TIME u_THROUGHPUT u_COST cs ta kt nz la h0 n0 _ T11.heap _
    rw [e11]
    exact ⟨rfl, N10, K1⟩
theorem d20_0 : decode method_3_code 0 = .ok (.aload_n 0, 1) := by decide +kernel
theorem d20_1 : decode method_3_code 1 = .ok (.ifnonnull 5, 3) := by decide +kernel
theorem d20_6 : decode method_3_code 6 = .ok (.aload_n 0, 1) := by decide +kernel
theorem d20_7 : decode method_3_code 7 = .ok (.ldc 13, 2) := by decide +kernel
theorem d20_9 : decode method_3_code 9 = .ok (.invokevirtual 45, 3) := by decide +kernel
theorem d20_12 : decode method_3_code 12 = .ok (.ifCond .eq 7, 3) := by decide +kernel
theorem d20_19 : decode method_3_code 19 = .ok (.aload_n 0, 1) := by decide +kernel
theorem d20_20 : decode method_3_code 20 = .ok (.ldc 15, 2) := by decide +kernel
theorem d20_22 : decode method_3_code 22 = .ok (.invokevirtual 45, 3) := by decide +kernel
theorem d20_25 : decode method_3_code 25 = .ok (.ifCond .eq 7, 3) := by decide +kernel
theorem d20_28 : decode method_3_code 28 = .ok (.getstatic 53, 3) := by decide +kernel
theorem d20_31 : decode method_3_code 31 = .ok (.areturn, 1) := by decide +kernel
theorem ef_20 (m : MethodId) (a20_0 : Addr) : entryFrame m #[(.ref a20_0)] 1 = mkF m 0 #[.val (.ref a20_0)] [] := by first | (simp [entryFrame, mkF, argsToLocals, Value.category]; done) | rfl
def Q20 (Z : State) (a20_0 : Addr) (u_RESPONSE_TIME : Addr) (u_THROUGHPUT : Addr) (u_COST : Addr) (cs : Int32) (ta : Addr) (kt : ClassId) (nz : Int32) (la : List Int32) (h0 : Heap) (n0 : Nat) (v : Option Value) (h : Heap) (L : List Loc) : Prop := v = some (.ref u_THROUGHPUT) ∧ Fr n0 L ∧ Keep h0 h []
set_option maxRecDepth 65536 in
set_option maxHeartbeats 40000000 in
theorem rm20 (l : Launch) (Z : State) (a0 : Array Value) (hw : ∀ d ∈ tables_1, d.before a0 Z = true) (ws : List Jvm.Cond) (hEL : EW Z a0 consts_1) (wS : ∀ a ∈ Bundle.stringAtoms, a.before a0 Z = true) (a20_0 : Addr) (u_RESPONSE_TIME : Addr) (u_THROUGHPUT : Addr) (u_COST : Addr) (cs : Int32) (ta : Addr) (kt : ClassId) (nz : Int32) (la : List Int32) (h0 : Heap) (n0 : Nat) (Z0 : n0 ≤ h0.size) (S_RESPONSE_TIME : Sta Z h0 "com/example/leanweave/leanweave/QosMeasure" "RESPONSE_TIME" "Lcom/example/leanweave/leanweave/QosMeasure;" (.ref u_RESPONSE_TIME)) (S_THROUGHPUT : Sta Z h0 "com/example/leanweave/leanweave/QosMeasure" "THROUGHPUT" "Lcom/example/leanweave/leanweave/QosMeasure;" (.ref u_THROUGHPUT)) (S_COST : Sta Z h0 "com/example/leanweave/leanweave/QosMeasure" "COST" "Lcom/example/leanweave/leanweave/QosMeasure;" (.ref u_COST)) (Sc : Sta Z h0 "java/lang/String" "COMPACT_STRINGS" "Z" (.int cs)) (Es : Exa Z h0 a20_0 "java/lang/String") (Fs : Fld Z h0 a20_0 "java/lang/String" "value" "[B" (.ref ta)) (Fz : Fld Z h0 a20_0 "java/lang/String" "coder" "B" (.int (0 : Int32))) (Vs : Arv Z h0 ta kt .byte nz (List.map Value.int (List.map (fun c => c.toInt8.toInt32) la)) (.int (0 : Int32))) (hcs : ¬ (cs = (0 : Int32))) (hnz : nz = Int32.ofNat la.length) (hb_la : ∀ c ∈ la, ¬ c < 0 ∧ ¬ (255 : Int32) < c) (hl_la : la.length ≤ 4000) (hnR : ¬ (la = own_LR)) (hyT : la = own_LT) :
    MetFree l (⟨"com/example/leanweave/leanweave/QosMeasureOfColumnPinLaw", "ref", "(Ljava/lang/String;)Lcom/example/leanweave/leanweave/QosMeasure;"⟩ : MethodName) (head1 (Jvm.Cond.code (⟨"com/example/leanweave/leanweave/QosMeasureOfColumnPinLaw", "ref", "(Ljava/lang/String;)Lcom/example/leanweave/leanweave/QosMeasure;"⟩ : MethodName) method_3_code 1 (some (.object "com/example/leanweave/leanweave/QosMeasure")) :: ws) ({ frames := 2, cells := 4, slots := 136, locals := 28 } : Room)) (fun a U => a = #[(.ref a20_0)] ∧ Z.Warmed39 U.vm ∧ U.heap = h0 ∧ CHv Z consts_1 U.vm h0) (fun _ _ _ _ _ => True) (fun _ U o U' => ∃ v L, o = .returned v ∧ Q20 Z a20_0 u_RESPONSE_TIME u_THROUGHPUT u_COST cs ta kt nz la h0 n0 v U'.heap L ∧ CHr Z consts_1 U.vm U.heap U'.vm U'.heap ∧ ReturnedEndW U o U' L ({ frames := 2, cells := 4, slots := 136, locals := 28 } : Room).cells ({ frames := 2, cells := 4, slots := 136, locals := 28 } : Room).slots) := by
  refine MetFree.of_bodySF (plainFor_of_name pn_1) hisR ?_
  intro p e s m args below meth c s₁ Bd hml0 hP hK
  obtain ⟨rfl, hZ, hh, hCH⟩ := hP
  have hx := Bd.exec
  have hby := Bd.bytes
  have hml : c.maxLocals = 1 := hml0
  have hown : s.vm.findClass "com/example/leanweave/leanweave/QosMeasureOfColumnPinLaw" = some m.cls := findClass_of_methodNamed Bd.named
  have hnm := (name_of_methodNamed Bd.named Bd.method).1
  have X0 : Stand p l e ({ frames := 2, cells := 4, slots := 136, locals := 28 } : Room) (s.setVm s.vm) m #[(.ref a20_0)] below meth c s₁ [] 0 0 := Stand.of_body Bd
  have e0 : s₁.heap = h0 := by rw [← hh, Bd.state]; rfl
  have N0 := Fr.nil n0
  have hS : s.Since s.vm h0.size := (State.WarmedH.refl s).since _
  have hk : h0.size ≤ h0.size := Nat.le_refl _
  have hCR : CHr Z consts_1 s.vm h0 s.vm h0 := CHr.refl hCH
  have pre0 : ∀ t, Steps p.tables e below (s₁.setTop (mkF m 0 #[.val (.ref a20_0)] [])) t → Steps p.tables e below (s₁.setTop (entryFrame m #[(.ref a20_0)] 1)) t := fun t k => castTop (ef_20 m a20_0) k
  obtain ⟨b1, T1, h1, k1, d1, kb1, X1, e1, E1, hS, hk, hZ, hown, Ex1, Fc1, Fv1, V1, lta1, ltb1, hC1, hL1, hsf1, st1⟩ := ldcCH X0 hx hZ hown (wd hw 1 rfl) wS e0 hS hk hEL (List.mem_of_getElem? (i := 0) rfl) hCR.1 (vs := [(.int (114 : Int32)), (.int (101 : Int32)), (.int (115 : Int32)), (.int (112 : Int32)), (.int (111 : Int32)), (.int (110 : Int32)), (.int (115 : Int32)), (.int (101 : Int32)), (.int (95 : Int32)), (.int (116 : Int32)), (.int (105 : Int32)), (.int (109 : Int32)), (.int (101 : Int32)), (.int (95 : Int32)), (.int (109 : Int32)), (.int (115 : Int32))]) (z := (16 : Int32)) ⟨by decide, rfl⟩ (by decide) rfl (g := (mkF m 7 #[.val (.ref a20_0)] [(.ref a20_0)])) rfl (hb hby d20_7) (n := 64) (by decide) (by decide) (by decide) (by decide)
  have hCR := hCR.trans hC1
  have Zs1 : n0 ≤ h1.size := Nat.le_trans Z0 E1.1
  have K1 : Keep h0 h1 [] := (Keep.refl h0 []).ext E1
  have F2 := S_RESPONSE_TIME.ext E1
  have F3 := S_THROUGHPUT.ext E1
  have F4 := S_COST.ext E1
  have F5 := Sc.ext E1
  have F6 := Es.ext E1
  have F7 := Fs.ext E1
  have F8 := Fz.ext E1
  have F9 := Vs.ext E1
  obtain ⟨cq10, kq10, q10a, q10b, q10c⟩ := isOf hZ e1 F6
  obtain ⟨_, _, ⟨T10, L10, k10, n10⟩, -, X10, ⟨Lc10, hQ10, l10, y10, z10⟩, st10⟩ := X1.virtualBack hx (y := (⟨"java/lang/String", "equals", "(Ljava/lang/Object;)Z"⟩ : MethodName)) (z := (⟨"java/lang/String", "equals", "(Ljava/lang/Object;)Z"⟩ : MethodName)) hown (mvT hZ (wd hw 121 rfl)) (mvT hZ (wd hw 98 rfl)) (notFace_of_selects (args := #[]) (mvT hZ (wd hw 100 rfl))) (mvT hZ (wd hw 100 rfl)) (mvT hZ (wd hw 99 rfl)) (by decide) (StrChars.Road.eqW (W := 0) hZ (fun d hd => hw d (own_sub_eqW d hd)) (kI := 4) (wd hw 3 rfl) (cs := la) F6 F7 F8 F9 (own_codG hnz hb_la) (own_u16 hb_la) hl_la (ds := own_LR) Ex1 Fv1 Fc1 V1 own_codR own_bdR (by decide) F5 hcs (by decide) (by decide)) q10a q10c (g := (mkF m 9 #[.val (.ref a20_0)] [(.ref b1), (.ref a20_0)])) rfl (by rw [hml]; rfl) (Steps.refl _) (argsL := [(.ref b1)]) (rest := []) (lenOf pd_7 rfl) rfl (by show 2 * 0 + _ ≤ _; exact Nat.le_of_eq rfl) (hb hby d20_9) (fun _ _ => ⟨rfl, e1, (by decide : 2 + 0 ≤ _), (by decide : 68 + 0 ≤ _)⟩)
  dsimp only [Pt.U, Pt.locs, Pt.cells, Pt.slots] at X10 l10 y10 z10 st10 hQ10
  rw [l10, y10, z10] at X10
  obtain ⟨hor10, rfl, eh10⟩ := hQ10
  have N10 := Fr.app N0 (Fr.nil n0)
  have hov10 := own_orF hor10 hnR
  subst hov10
  obtain ⟨b11, T11, h11, k11, d11, kb11, X11, e11, E11, hS, hk, hZ, hown, Ex11, Fc11, Fv11, V11, lta11, ltb11, hC11, hL11, hsf11, st11⟩ := ldcCH X10 hx hZ hown (wd hw 122 rfl) wS eh10 hS hk hEL (List.mem_of_getElem? (i := 1) rfl) hCR.1 (vs := [(.int (116 : Int32)), (.int (104 : Int32)), (.int (114 : Int32)), (.int (111 : Int32)), (.int (117 : Int32)), (.int (103 : Int32)), (.int (104 : Int32)), (.int (112 : Int32)), (.int (117 : Int32)), (.int (116 : Int32)), (.int (95 : Int32)), (.int (112 : Int32)), (.int (101 : Int32)), (.int (114 : Int32)), (.int (95 : Int32)), (.int (115 : Int32))]) (z := (16 : Int32)) ⟨by decide, rfl⟩ (by decide) rfl (g := (mkF m 20 #[.val (.ref a20_0)] [(.ref a20_0)])) rfl (hb hby d20_20) (n := 64) (by decide) (by decide) (by decide) (by decide)
  have hCR := hCR.trans hC11
  have Zs11 : n0 ≤ h11.size := Nat.le_trans Zs1 E11.1
  have K11 : Keep h0 h11 [] := K1.ext E11
  have F12 := F2.ext E11
  have F13 := F3.ext E11
  have F14 := F4.ext E11
  have F15 := F5.ext E11
  have F16 := F6.ext E11
  have F17 := F7.ext E11
  have F18 := F8.ext E11
  have F19 := F9.ext E11
  have F20 := Ex1.ext E11
  have F21 := Fc1.ext E11
  have F22 := Fv1.ext E11
  have F23 := V1.ext E11
  obtain ⟨cq24, kq24, q24a, q24b, q24c⟩ := isOf hZ e11 F16
  obtain ⟨_, _, ⟨T24, L24, k24, n24⟩, -, X24, ⟨Lc24, hQ24, l24, y24, z24⟩, st24⟩ := X11.virtualBack hx (y := (⟨"java/lang/String", "equals", "(Ljava/lang/Object;)Z"⟩ : MethodName)) (z := (⟨"java/lang/String", "equals", "(Ljava/lang/Object;)Z"⟩ : MethodName)) hown (mvT hZ (wd hw 121 rfl)) (mvT hZ (wd hw 98 rfl)) (notFace_of_selects (args := #[]) (mvT hZ (wd hw 100 rfl))) (mvT hZ (wd hw 100 rfl)) (mvT hZ (wd hw 99 rfl)) (by decide) (StrChars.Road.eqW (W := 0) hZ (fun d hd => hw d (own_sub_eqW d hd)) (kI := 4) (wd hw 3 rfl) (cs := la) F16 F17 F18 F19 (own_codG hnz hb_la) (own_u16 hb_la) hl_la (ds := own_LT) Ex11 Fv11 Fc11 V11 own_codT own_bdT (by decide) F15 hcs (by decide) (by decide)) q24a q24c (g := (mkF m 22 #[.val (.ref a20_0)] [(.ref b11), (.ref a20_0)])) rfl (by rw [hml]; rfl) (Steps.refl _) (argsL := [(.ref b11)]) (rest := []) (lenOf pd_7 rfl) rfl (by show 2 * 0 + _ ≤ _; exact Nat.le_of_eq rfl) (hb hby d20_22) (fun _ _ => ⟨rfl, e11, (by decide : 4 + 0 ≤ _), (by decide : 136 + 0 ≤ _)⟩)
  dsimp only [Pt.U, Pt.locs, Pt.cells, Pt.slots] at X24 l24 y24 z24 st24 hQ24
  rw [l24, y24, z24] at X24
  obtain ⟨hor24, rfl, eh24⟩ := hQ24
  have N24 := Fr.app N10 (Fr.nil n0)
  have hov24 := own_orT hor24 hyT
  subst hov24
  obtain ⟨T25, X25, e25, st25⟩ := getS2 X24 hx hZ hown (host := "") (Or.inl (wd hw 142 rfl)) Via.refl eh24 F13 (g := (mkF m 28 #[.val (.ref a20_0)] [])) rfl (hb hby d20_28)
  have k26 : ∀ t, Steps p.tables e below (T25.setTop (mkF m 31 #[.val (.ref a20_0)] [(.ref u_THROUGHPUT)])) t → Steps p.tables e below (s₁.setTop (entryFrame m #[(.ref a20_0)] 1)) t := by
    intro t k
    refine pre0 t ?_
    refine XS.aloadN X0.here hx rfl (hb hby d20_0) rfl rfl ?_
    refine XS.ifnonnullYes X0.here hx rfl (pc0 := 1) (pc' := 6) rfl (hb hby d20_1) rfl (by decide) (by decide) ?_
    refine XS.aloadN X0.here hx rfl (hb hby d20_6) rfl rfl ?_
    refine st1 _ ?_
    refine st10.trans ?_
    refine XS.ifYes X10.here hx rfl (pc0 := 12) (pc' := 19) rfl (hb hby d20_12) rfl ((if0 _ _).trans (teq (by decide : (0 : Int32) = (0 : Int32))).1) (by decide) (by decide) ?_
    refine XS.aloadN X10.here hx rfl (hb hby d20_19) rfl rfl ?_
    refine st11 _ ?_
    refine st24.trans ?_
    refine XS.ifNo X24.here hx rfl (hb hby d20_25) rfl ((if0 _ _).trans (feq (by decide : ¬ ((1 : Int32) = (0 : Int32)))).1) ?_
    refine st25 _ ?_
    exact k
  obtain ⟨fs, hr, hrun, hended, hE1, hE2, hE3, hE4⟩ := X25.leaveW hS (by rw [e25]; exact hk) (v := some (.ref u_THROUGHPUT)) (fun h => by rw [Bd.returns] at h; cases h)
  have hCE := hCR.trans (CHv.at X25 hZ hEL hCR.1)
  refine ⟨_, _, k26 _ ?_, hrun, hended, _, _, rfl, ?_, (by show CHr Z consts_1 s.vm s.heap T25.vm T25.heap; rw [hh, e25]; exact hCE), ⟨_, rfl⟩, hE2, hE3, hE4.mono (by decide) (by decide)⟩
  · exact retOut X25 hx Bd.returns rfl (Or.inr (Or.inr (Or.inr (Or.inr ⟨rfl, rfl, rfl⟩)))) (hb hby d20_31) hr
  · show Q20 Z a20_0 u_RESPONSE_TIME u_THROUGHPUT u_COST cs ta kt nz la h0 n0 _ T25.heap _
    rw [e25]
    exact ⟨rfl, N24, K11⟩
theorem d21_0 : decode method_3_code 0 = .ok (.aload_n 0, 1) := by decide +kernel
theorem d21_1 : decode method_3_code 1 = .ok (.ifnonnull 5, 3) := by decide +kernel
theorem d21_6 : decode method_3_code 6 = .ok (.aload_n 0, 1) := by decide +kernel
theorem d21_7 : decode method_3_code 7 = .ok (.ldc 13, 2) := by decide +kernel
theorem d21_9 : decode method_3_code 9 = .ok (.invokevirtual 45, 3) := by decide +kernel
theorem d21_12 : decode method_3_code 12 = .ok (.ifCond .eq 7, 3) := by decide +kernel
theorem d21_19 : decode method_3_code 19 = .ok (.aload_n 0, 1) := by decide +kernel
theorem d21_20 : decode method_3_code 20 = .ok (.ldc 15, 2) := by decide +kernel
theorem d21_22 : decode method_3_code 22 = .ok (.invokevirtual 45, 3) := by decide +kernel
theorem d21_25 : decode method_3_code 25 = .ok (.ifCond .eq 7, 3) := by decide +kernel
theorem d21_32 : decode method_3_code 32 = .ok (.aload_n 0, 1) := by decide +kernel
theorem d21_33 : decode method_3_code 33 = .ok (.ldc 17, 2) := by decide +kernel
theorem d21_35 : decode method_3_code 35 = .ok (.invokevirtual 45, 3) := by decide +kernel
theorem d21_38 : decode method_3_code 38 = .ok (.ifCond .eq 7, 3) := by decide +kernel
theorem d21_41 : decode method_3_code 41 = .ok (.getstatic 56, 3) := by decide +kernel
theorem d21_44 : decode method_3_code 44 = .ok (.areturn, 1) := by decide +kernel
theorem ef_21 (m : MethodId) (a21_0 : Addr) : entryFrame m #[(.ref a21_0)] 1 = mkF m 0 #[.val (.ref a21_0)] [] := by first | (simp [entryFrame, mkF, argsToLocals, Value.category]; done) | rfl
def Q21 (Z : State) (a21_0 : Addr) (u_RESPONSE_TIME : Addr) (u_THROUGHPUT : Addr) (u_COST : Addr) (cs : Int32) (ta : Addr) (kt : ClassId) (nz : Int32) (la : List Int32) (h0 : Heap) (n0 : Nat) (v : Option Value) (h : Heap) (L : List Loc) : Prop := v = some (.ref u_COST) ∧ Fr n0 L ∧ Keep h0 h []
set_option maxRecDepth 65536 in
set_option maxHeartbeats 40000000 in
theorem rm21 (l : Launch) (Z : State) (a0 : Array Value) (hw : ∀ d ∈ tables_1, d.before a0 Z = true) (ws : List Jvm.Cond) (hEL : EW Z a0 consts_1) (wS : ∀ a ∈ Bundle.stringAtoms, a.before a0 Z = true) (a21_0 : Addr) (u_RESPONSE_TIME : Addr) (u_THROUGHPUT : Addr) (u_COST : Addr) (cs : Int32) (ta : Addr) (kt : ClassId) (nz : Int32) (la : List Int32) (h0 : Heap) (n0 : Nat) (Z0 : n0 ≤ h0.size) (S_RESPONSE_TIME : Sta Z h0 "com/example/leanweave/leanweave/QosMeasure" "RESPONSE_TIME" "Lcom/example/leanweave/leanweave/QosMeasure;" (.ref u_RESPONSE_TIME)) (S_THROUGHPUT : Sta Z h0 "com/example/leanweave/leanweave/QosMeasure" "THROUGHPUT" "Lcom/example/leanweave/leanweave/QosMeasure;" (.ref u_THROUGHPUT)) (S_COST : Sta Z h0 "com/example/leanweave/leanweave/QosMeasure" "COST" "Lcom/example/leanweave/leanweave/QosMeasure;" (.ref u_COST)) (Sc : Sta Z h0 "java/lang/String" "COMPACT_STRINGS" "Z" (.int cs)) (Es : Exa Z h0 a21_0 "java/lang/String") (Fs : Fld Z h0 a21_0 "java/lang/String" "value" "[B" (.ref ta)) (Fz : Fld Z h0 a21_0 "java/lang/String" "coder" "B" (.int (0 : Int32))) (Vs : Arv Z h0 ta kt .byte nz (List.map Value.int (List.map (fun c => c.toInt8.toInt32) la)) (.int (0 : Int32))) (hcs : ¬ (cs = (0 : Int32))) (hnz : nz = Int32.ofNat la.length) (hb_la : ∀ c ∈ la, ¬ c < 0 ∧ ¬ (255 : Int32) < c) (hl_la : la.length ≤ 4000) (hnR : ¬ (la = own_LR)) (hnT : ¬ (la = own_LT)) (hyC : la = own_LC) :
    MetFree l (⟨"com/example/leanweave/leanweave/QosMeasureOfColumnPinLaw", "ref", "(Ljava/lang/String;)Lcom/example/leanweave/leanweave/QosMeasure;"⟩ : MethodName) (head1 (Jvm.Cond.code (⟨"com/example/leanweave/leanweave/QosMeasureOfColumnPinLaw", "ref", "(Ljava/lang/String;)Lcom/example/leanweave/leanweave/QosMeasure;"⟩ : MethodName) method_3_code 1 (some (.object "com/example/leanweave/leanweave/QosMeasure")) :: ws) ({ frames := 2, cells := 6, slots := 156, locals := 28 } : Room)) (fun a U => a = #[(.ref a21_0)] ∧ Z.Warmed39 U.vm ∧ U.heap = h0 ∧ CHv Z consts_1 U.vm h0) (fun _ _ _ _ _ => True) (fun _ U o U' => ∃ v L, o = .returned v ∧ Q21 Z a21_0 u_RESPONSE_TIME u_THROUGHPUT u_COST cs ta kt nz la h0 n0 v U'.heap L ∧ CHr Z consts_1 U.vm U.heap U'.vm U'.heap ∧ ReturnedEndW U o U' L ({ frames := 2, cells := 6, slots := 156, locals := 28 } : Room).cells ({ frames := 2, cells := 6, slots := 156, locals := 28 } : Room).slots) := by
  refine MetFree.of_bodySF (plainFor_of_name pn_1) hisR ?_
  intro p e s m args below meth c s₁ Bd hml0 hP hK
  obtain ⟨rfl, hZ, hh, hCH⟩ := hP
  have hx := Bd.exec
  have hby := Bd.bytes
  have hml : c.maxLocals = 1 := hml0
  have hown : s.vm.findClass "com/example/leanweave/leanweave/QosMeasureOfColumnPinLaw" = some m.cls := findClass_of_methodNamed Bd.named
  have hnm := (name_of_methodNamed Bd.named Bd.method).1
  have X0 : Stand p l e ({ frames := 2, cells := 6, slots := 156, locals := 28 } : Room) (s.setVm s.vm) m #[(.ref a21_0)] below meth c s₁ [] 0 0 := Stand.of_body Bd
  have e0 : s₁.heap = h0 := by rw [← hh, Bd.state]; rfl
  have N0 := Fr.nil n0
  have hS : s.Since s.vm h0.size := (State.WarmedH.refl s).since _
  have hk : h0.size ≤ h0.size := Nat.le_refl _
  have hCR : CHr Z consts_1 s.vm h0 s.vm h0 := CHr.refl hCH
  have pre0 : ∀ t, Steps p.tables e below (s₁.setTop (mkF m 0 #[.val (.ref a21_0)] [])) t → Steps p.tables e below (s₁.setTop (entryFrame m #[(.ref a21_0)] 1)) t := fun t k => castTop (ef_21 m a21_0) k
  obtain ⟨b1, T1, h1, k1, d1, kb1, X1, e1, E1, hS, hk, hZ, hown, Ex1, Fc1, Fv1, V1, lta1, ltb1, hC1, hL1, hsf1, st1⟩ := ldcCH X0 hx hZ hown (wd hw 1 rfl) wS e0 hS hk hEL (List.mem_of_getElem? (i := 0) rfl) hCR.1 (vs := [(.int (114 : Int32)), (.int (101 : Int32)), (.int (115 : Int32)), (.int (112 : Int32)), (.int (111 : Int32)), (.int (110 : Int32)), (.int (115 : Int32)), (.int (101 : Int32)), (.int (95 : Int32)), (.int (116 : Int32)), (.int (105 : Int32)), (.int (109 : Int32)), (.int (101 : Int32)), (.int (95 : Int32)), (.int (109 : Int32)), (.int (115 : Int32))]) (z := (16 : Int32)) ⟨by decide, rfl⟩ (by decide) rfl (g := (mkF m 7 #[.val (.ref a21_0)] [(.ref a21_0)])) rfl (hb hby d21_7) (n := 64) (by decide) (by decide) (by decide) (by decide)
  have hCR := hCR.trans hC1
  have Zs1 : n0 ≤ h1.size := Nat.le_trans Z0 E1.1
  have K1 : Keep h0 h1 [] := (Keep.refl h0 []).ext E1
  have F2 := S_RESPONSE_TIME.ext E1
  have F3 := S_THROUGHPUT.ext E1
  have F4 := S_COST.ext E1
  have F5 := Sc.ext E1
  have F6 := Es.ext E1
  have F7 := Fs.ext E1
  have F8 := Fz.ext E1
  have F9 := Vs.ext E1
  obtain ⟨cq10, kq10, q10a, q10b, q10c⟩ := isOf hZ e1 F6
  obtain ⟨_, _, ⟨T10, L10, k10, n10⟩, -, X10, ⟨Lc10, hQ10, l10, y10, z10⟩, st10⟩ := X1.virtualBack hx (y := (⟨"java/lang/String", "equals", "(Ljava/lang/Object;)Z"⟩ : MethodName)) (z := (⟨"java/lang/String", "equals", "(Ljava/lang/Object;)Z"⟩ : MethodName)) hown (mvT hZ (wd hw 121 rfl)) (mvT hZ (wd hw 98 rfl)) (notFace_of_selects (args := #[]) (mvT hZ (wd hw 100 rfl))) (mvT hZ (wd hw 100 rfl)) (mvT hZ (wd hw 99 rfl)) (by decide) (StrChars.Road.eqW (W := 0) hZ (fun d hd => hw d (own_sub_eqW d hd)) (kI := 4) (wd hw 3 rfl) (cs := la) F6 F7 F8 F9 (own_codG hnz hb_la) (own_u16 hb_la) hl_la (ds := own_LR) Ex1 Fv1 Fc1 V1 own_codR own_bdR (by decide) F5 hcs (by decide) (by decide)) q10a q10c (g := (mkF m 9 #[.val (.ref a21_0)] [(.ref b1), (.ref a21_0)])) rfl (by rw [hml]; rfl) (Steps.refl _) (argsL := [(.ref b1)]) (rest := []) (lenOf pd_7 rfl) rfl (by show 2 * 0 + _ ≤ _; exact Nat.le_of_eq rfl) (hb hby d21_9) (fun _ _ => ⟨rfl, e1, (by decide : 2 + 0 ≤ _), (by decide : 68 + 0 ≤ _)⟩)
  dsimp only [Pt.U, Pt.locs, Pt.cells, Pt.slots] at X10 l10 y10 z10 st10 hQ10
  rw [l10, y10, z10] at X10
  obtain ⟨hor10, rfl, eh10⟩ := hQ10
  have N10 := Fr.app N0 (Fr.nil n0)
  have hov10 := own_orF hor10 hnR
  subst hov10
  obtain ⟨b11, T11, h11, k11, d11, kb11, X11, e11, E11, hS, hk, hZ, hown, Ex11, Fc11, Fv11, V11, lta11, ltb11, hC11, hL11, hsf11, st11⟩ := ldcCH X10 hx hZ hown (wd hw 122 rfl) wS eh10 hS hk hEL (List.mem_of_getElem? (i := 1) rfl) hCR.1 (vs := [(.int (116 : Int32)), (.int (104 : Int32)), (.int (114 : Int32)), (.int (111 : Int32)), (.int (117 : Int32)), (.int (103 : Int32)), (.int (104 : Int32)), (.int (112 : Int32)), (.int (117 : Int32)), (.int (116 : Int32)), (.int (95 : Int32)), (.int (112 : Int32)), (.int (101 : Int32)), (.int (114 : Int32)), (.int (95 : Int32)), (.int (115 : Int32))]) (z := (16 : Int32)) ⟨by decide, rfl⟩ (by decide) rfl (g := (mkF m 20 #[.val (.ref a21_0)] [(.ref a21_0)])) rfl (hb hby d21_20) (n := 64) (by decide) (by decide) (by decide) (by decide)
  have hCR := hCR.trans hC11
  have Zs11 : n0 ≤ h11.size := Nat.le_trans Zs1 E11.1
  have K11 : Keep h0 h11 [] := K1.ext E11
  have F12 := F2.ext E11
  have F13 := F3.ext E11
  have F14 := F4.ext E11
  have F15 := F5.ext E11
  have F16 := F6.ext E11
  have F17 := F7.ext E11
  have F18 := F8.ext E11
  have F19 := F9.ext E11
  have F20 := Ex1.ext E11
  have F21 := Fc1.ext E11
  have F22 := Fv1.ext E11
  have F23 := V1.ext E11
  obtain ⟨cq24, kq24, q24a, q24b, q24c⟩ := isOf hZ e11 F16
  obtain ⟨_, _, ⟨T24, L24, k24, n24⟩, -, X24, ⟨Lc24, hQ24, l24, y24, z24⟩, st24⟩ := X11.virtualBack hx (y := (⟨"java/lang/String", "equals", "(Ljava/lang/Object;)Z"⟩ : MethodName)) (z := (⟨"java/lang/String", "equals", "(Ljava/lang/Object;)Z"⟩ : MethodName)) hown (mvT hZ (wd hw 121 rfl)) (mvT hZ (wd hw 98 rfl)) (notFace_of_selects (args := #[]) (mvT hZ (wd hw 100 rfl))) (mvT hZ (wd hw 100 rfl)) (mvT hZ (wd hw 99 rfl)) (by decide) (StrChars.Road.eqW (W := 0) hZ (fun d hd => hw d (own_sub_eqW d hd)) (kI := 4) (wd hw 3 rfl) (cs := la) F16 F17 F18 F19 (own_codG hnz hb_la) (own_u16 hb_la) hl_la (ds := own_LT) Ex11 Fv11 Fc11 V11 own_codT own_bdT (by decide) F15 hcs (by decide) (by decide)) q24a q24c (g := (mkF m 22 #[.val (.ref a21_0)] [(.ref b11), (.ref a21_0)])) rfl (by rw [hml]; rfl) (Steps.refl _) (argsL := [(.ref b11)]) (rest := []) (lenOf pd_7 rfl) rfl (by show 2 * 0 + _ ≤ _; exact Nat.le_of_eq rfl) (hb hby d21_22) (fun _ _ => ⟨rfl, e11, (by decide : 4 + 0 ≤ _), (by decide : 136 + 0 ≤ _)⟩)
  dsimp only [Pt.U, Pt.locs, Pt.cells, Pt.slots] at X24 l24 y24 z24 st24 hQ24
  rw [l24, y24, z24] at X24
  obtain ⟨hor24, rfl, eh24⟩ := hQ24
  have N24 := Fr.app N10 (Fr.nil n0)
  have hov24 := own_orF hor24 hnT
  subst hov24
  obtain ⟨b25, T25, h25, k25, d25, kb25, X25, e25, E25, hS, hk, hZ, hown, Ex25, Fc25, Fv25, V25, lta25, ltb25, hC25, hL25, hsf25, st25⟩ := ldcCH X24 hx hZ hown (wd hw 123 rfl) wS eh24 hS hk hEL (List.mem_of_getElem? (i := 2) rfl) hCR.1 (vs := [(.int (99 : Int32)), (.int (111 : Int32)), (.int (115 : Int32)), (.int (116 : Int32))]) (z := (4 : Int32)) ⟨by decide, rfl⟩ (by decide) rfl (g := (mkF m 33 #[.val (.ref a21_0)] [(.ref a21_0)])) rfl (hb hby d21_33) (n := 16) (by decide) (by decide) (by decide) (by decide)
  have hCR := hCR.trans hC25
  have Zs25 : n0 ≤ h25.size := Nat.le_trans Zs11 E25.1
  have K25 : Keep h0 h25 [] := K11.ext E25
  have F26 := F12.ext E25
  have F27 := F13.ext E25
  have F28 := F14.ext E25
  have F29 := F15.ext E25
  have F30 := F16.ext E25
  have F31 := F17.ext E25
  have F32 := F18.ext E25
  have F33 := F19.ext E25
  have F34 := F20.ext E25
  have F35 := F21.ext E25
  have F36 := F22.ext E25
  have F37 := F23.ext E25
  have F38 := Ex11.ext E25
  have F39 := Fc11.ext E25
  have F40 := Fv11.ext E25
  have F41 := V11.ext E25
  obtain ⟨cq42, kq42, q42a, q42b, q42c⟩ := isOf hZ e25 F30
  obtain ⟨_, _, ⟨T42, L42, k42, n42⟩, -, X42, ⟨Lc42, hQ42, l42, y42, z42⟩, st42⟩ := X25.virtualBack hx (y := (⟨"java/lang/String", "equals", "(Ljava/lang/Object;)Z"⟩ : MethodName)) (z := (⟨"java/lang/String", "equals", "(Ljava/lang/Object;)Z"⟩ : MethodName)) hown (mvT hZ (wd hw 121 rfl)) (mvT hZ (wd hw 98 rfl)) (notFace_of_selects (args := #[]) (mvT hZ (wd hw 100 rfl))) (mvT hZ (wd hw 100 rfl)) (mvT hZ (wd hw 99 rfl)) (by decide) (StrChars.Road.eqW (W := 0) hZ (fun d hd => hw d (own_sub_eqW d hd)) (kI := 4) (wd hw 3 rfl) (cs := la) F30 F31 F32 F33 (own_codG hnz hb_la) (own_u16 hb_la) hl_la (ds := own_LC) Ex25 Fv25 Fc25 V25 own_codC own_bdC (by decide) F29 hcs (by decide) (by decide)) q42a q42c (g := (mkF m 35 #[.val (.ref a21_0)] [(.ref b25), (.ref a21_0)])) rfl (by rw [hml]; rfl) (Steps.refl _) (argsL := [(.ref b25)]) (rest := []) (lenOf pd_7 rfl) rfl (by show 2 * 0 + _ ≤ _; exact Nat.le_of_eq rfl) (hb hby d21_35) (fun _ _ => ⟨rfl, e25, (by decide : 6 + 0 ≤ _), (by decide : 156 + 0 ≤ _)⟩)
  dsimp only [Pt.U, Pt.locs, Pt.cells, Pt.slots] at X42 l42 y42 z42 st42 hQ42
  rw [l42, y42, z42] at X42
  obtain ⟨hor42, rfl, eh42⟩ := hQ42
  have N42 := Fr.app N24 (Fr.nil n0)
  have hov42 := own_orT hor42 hyC
  subst hov42
  obtain ⟨T43, X43, e43, st43⟩ := getS2 X42 hx hZ hown (host := "") (Or.inl (wd hw 143 rfl)) Via.refl eh42 F28 (g := (mkF m 41 #[.val (.ref a21_0)] [])) rfl (hb hby d21_41)
  have k44 : ∀ t, Steps p.tables e below (T43.setTop (mkF m 44 #[.val (.ref a21_0)] [(.ref u_COST)])) t → Steps p.tables e below (s₁.setTop (entryFrame m #[(.ref a21_0)] 1)) t := by
    intro t k
    refine pre0 t ?_
    refine XS.aloadN X0.here hx rfl (hb hby d21_0) rfl rfl ?_
    refine XS.ifnonnullYes X0.here hx rfl (pc0 := 1) (pc' := 6) rfl (hb hby d21_1) rfl (by decide) (by decide) ?_
    refine XS.aloadN X0.here hx rfl (hb hby d21_6) rfl rfl ?_
    refine st1 _ ?_
    refine st10.trans ?_
    refine XS.ifYes X10.here hx rfl (pc0 := 12) (pc' := 19) rfl (hb hby d21_12) rfl ((if0 _ _).trans (teq (by decide : (0 : Int32) = (0 : Int32))).1) (by decide) (by decide) ?_
    refine XS.aloadN X10.here hx rfl (hb hby d21_19) rfl rfl ?_
    refine st11 _ ?_
    refine st24.trans ?_
    refine XS.ifYes X24.here hx rfl (pc0 := 25) (pc' := 32) rfl (hb hby d21_25) rfl ((if0 _ _).trans (teq (by decide : (0 : Int32) = (0 : Int32))).1) (by decide) (by decide) ?_
    refine XS.aloadN X24.here hx rfl (hb hby d21_32) rfl rfl ?_
    refine st25 _ ?_
    refine st42.trans ?_
    refine XS.ifNo X42.here hx rfl (hb hby d21_38) rfl ((if0 _ _).trans (feq (by decide : ¬ ((1 : Int32) = (0 : Int32)))).1) ?_
    refine st43 _ ?_
    exact k
  obtain ⟨fs, hr, hrun, hended, hE1, hE2, hE3, hE4⟩ := X43.leaveW hS (by rw [e43]; exact hk) (v := some (.ref u_COST)) (fun h => by rw [Bd.returns] at h; cases h)
  have hCE := hCR.trans (CHv.at X43 hZ hEL hCR.1)
  refine ⟨_, _, k44 _ ?_, hrun, hended, _, _, rfl, ?_, (by show CHr Z consts_1 s.vm s.heap T43.vm T43.heap; rw [hh, e43]; exact hCE), ⟨_, rfl⟩, hE2, hE3, hE4.mono (by decide) (by decide)⟩
  · exact retOut X43 hx Bd.returns rfl (Or.inr (Or.inr (Or.inr (Or.inr ⟨rfl, rfl, rfl⟩)))) (hb hby d21_44) hr
  · show Q21 Z a21_0 u_RESPONSE_TIME u_THROUGHPUT u_COST cs ta kt nz la h0 n0 _ T43.heap _
    rw [e43]
    exact ⟨rfl, N42, K25⟩
theorem d22_0 : decode method_3_code 0 = .ok (.aload_n 0, 1) := by decide +kernel
theorem d22_1 : decode method_3_code 1 = .ok (.ifnonnull 5, 3) := by decide +kernel
theorem d22_6 : decode method_3_code 6 = .ok (.aload_n 0, 1) := by decide +kernel
theorem d22_7 : decode method_3_code 7 = .ok (.ldc 13, 2) := by decide +kernel
theorem d22_9 : decode method_3_code 9 = .ok (.invokevirtual 45, 3) := by decide +kernel
theorem d22_12 : decode method_3_code 12 = .ok (.ifCond .eq 7, 3) := by decide +kernel
theorem d22_19 : decode method_3_code 19 = .ok (.aload_n 0, 1) := by decide +kernel
theorem d22_20 : decode method_3_code 20 = .ok (.ldc 15, 2) := by decide +kernel
theorem d22_22 : decode method_3_code 22 = .ok (.invokevirtual 45, 3) := by decide +kernel
theorem d22_25 : decode method_3_code 25 = .ok (.ifCond .eq 7, 3) := by decide +kernel
theorem d22_32 : decode method_3_code 32 = .ok (.aload_n 0, 1) := by decide +kernel
theorem d22_33 : decode method_3_code 33 = .ok (.ldc 17, 2) := by decide +kernel
theorem d22_35 : decode method_3_code 35 = .ok (.invokevirtual 45, 3) := by decide +kernel
theorem d22_38 : decode method_3_code 38 = .ok (.ifCond .eq 7, 3) := by decide +kernel
theorem d22_45 : decode method_3_code 45 = .ok (.aconst_null, 1) := by decide +kernel
theorem d22_46 : decode method_3_code 46 = .ok (.areturn, 1) := by decide +kernel
theorem ef_22 (m : MethodId) (a22_0 : Addr) : entryFrame m #[(.ref a22_0)] 1 = mkF m 0 #[.val (.ref a22_0)] [] := by first | (simp [entryFrame, mkF, argsToLocals, Value.category]; done) | rfl
def Q22 (Z : State) (a22_0 : Addr) (u_RESPONSE_TIME : Addr) (u_THROUGHPUT : Addr) (u_COST : Addr) (cs : Int32) (ta : Addr) (kt : ClassId) (nz : Int32) (la : List Int32) (h0 : Heap) (n0 : Nat) (v : Option Value) (h : Heap) (L : List Loc) : Prop := v = some .null ∧ Fr n0 L ∧ Keep h0 h []
set_option maxRecDepth 65536 in
set_option maxHeartbeats 40000000 in
theorem rm22 (l : Launch) (Z : State) (a0 : Array Value) (hw : ∀ d ∈ tables_1, d.before a0 Z = true) (ws : List Jvm.Cond) (hEL : EW Z a0 consts_1) (wS : ∀ a ∈ Bundle.stringAtoms, a.before a0 Z = true) (a22_0 : Addr) (u_RESPONSE_TIME : Addr) (u_THROUGHPUT : Addr) (u_COST : Addr) (cs : Int32) (ta : Addr) (kt : ClassId) (nz : Int32) (la : List Int32) (h0 : Heap) (n0 : Nat) (Z0 : n0 ≤ h0.size) (S_RESPONSE_TIME : Sta Z h0 "com/example/leanweave/leanweave/QosMeasure" "RESPONSE_TIME" "Lcom/example/leanweave/leanweave/QosMeasure;" (.ref u_RESPONSE_TIME)) (S_THROUGHPUT : Sta Z h0 "com/example/leanweave/leanweave/QosMeasure" "THROUGHPUT" "Lcom/example/leanweave/leanweave/QosMeasure;" (.ref u_THROUGHPUT)) (S_COST : Sta Z h0 "com/example/leanweave/leanweave/QosMeasure" "COST" "Lcom/example/leanweave/leanweave/QosMeasure;" (.ref u_COST)) (Sc : Sta Z h0 "java/lang/String" "COMPACT_STRINGS" "Z" (.int cs)) (Es : Exa Z h0 a22_0 "java/lang/String") (Fs : Fld Z h0 a22_0 "java/lang/String" "value" "[B" (.ref ta)) (Fz : Fld Z h0 a22_0 "java/lang/String" "coder" "B" (.int (0 : Int32))) (Vs : Arv Z h0 ta kt .byte nz (List.map Value.int (List.map (fun c => c.toInt8.toInt32) la)) (.int (0 : Int32))) (hcs : ¬ (cs = (0 : Int32))) (hnz : nz = Int32.ofNat la.length) (hb_la : ∀ c ∈ la, ¬ c < 0 ∧ ¬ (255 : Int32) < c) (hl_la : la.length ≤ 4000) (hnR : ¬ (la = own_LR)) (hnT : ¬ (la = own_LT)) (hnC : ¬ (la = own_LC)) :
    MetFree l (⟨"com/example/leanweave/leanweave/QosMeasureOfColumnPinLaw", "ref", "(Ljava/lang/String;)Lcom/example/leanweave/leanweave/QosMeasure;"⟩ : MethodName) (head1 (Jvm.Cond.code (⟨"com/example/leanweave/leanweave/QosMeasureOfColumnPinLaw", "ref", "(Ljava/lang/String;)Lcom/example/leanweave/leanweave/QosMeasure;"⟩ : MethodName) method_3_code 1 (some (.object "com/example/leanweave/leanweave/QosMeasure")) :: ws) ({ frames := 2, cells := 6, slots := 156, locals := 28 } : Room)) (fun a U => a = #[(.ref a22_0)] ∧ Z.Warmed39 U.vm ∧ U.heap = h0 ∧ CHv Z consts_1 U.vm h0) (fun _ _ _ _ _ => True) (fun _ U o U' => ∃ v L, o = .returned v ∧ Q22 Z a22_0 u_RESPONSE_TIME u_THROUGHPUT u_COST cs ta kt nz la h0 n0 v U'.heap L ∧ CHr Z consts_1 U.vm U.heap U'.vm U'.heap ∧ ReturnedEndW U o U' L ({ frames := 2, cells := 6, slots := 156, locals := 28 } : Room).cells ({ frames := 2, cells := 6, slots := 156, locals := 28 } : Room).slots) := by
  refine MetFree.of_bodySF (plainFor_of_name pn_1) hisR ?_
  intro p e s m args below meth c s₁ Bd hml0 hP hK
  obtain ⟨rfl, hZ, hh, hCH⟩ := hP
  have hx := Bd.exec
  have hby := Bd.bytes
  have hml : c.maxLocals = 1 := hml0
  have hown : s.vm.findClass "com/example/leanweave/leanweave/QosMeasureOfColumnPinLaw" = some m.cls := findClass_of_methodNamed Bd.named
  have hnm := (name_of_methodNamed Bd.named Bd.method).1
  have X0 : Stand p l e ({ frames := 2, cells := 6, slots := 156, locals := 28 } : Room) (s.setVm s.vm) m #[(.ref a22_0)] below meth c s₁ [] 0 0 := Stand.of_body Bd
  have e0 : s₁.heap = h0 := by rw [← hh, Bd.state]; rfl
  have N0 := Fr.nil n0
  have hS : s.Since s.vm h0.size := (State.WarmedH.refl s).since _
  have hk : h0.size ≤ h0.size := Nat.le_refl _
  have hCR : CHr Z consts_1 s.vm h0 s.vm h0 := CHr.refl hCH
  have pre0 : ∀ t, Steps p.tables e below (s₁.setTop (mkF m 0 #[.val (.ref a22_0)] [])) t → Steps p.tables e below (s₁.setTop (entryFrame m #[(.ref a22_0)] 1)) t := fun t k => castTop (ef_22 m a22_0) k
  obtain ⟨b1, T1, h1, k1, d1, kb1, X1, e1, E1, hS, hk, hZ, hown, Ex1, Fc1, Fv1, V1, lta1, ltb1, hC1, hL1, hsf1, st1⟩ := ldcCH X0 hx hZ hown (wd hw 1 rfl) wS e0 hS hk hEL (List.mem_of_getElem? (i := 0) rfl) hCR.1 (vs := [(.int (114 : Int32)), (.int (101 : Int32)), (.int (115 : Int32)), (.int (112 : Int32)), (.int (111 : Int32)), (.int (110 : Int32)), (.int (115 : Int32)), (.int (101 : Int32)), (.int (95 : Int32)), (.int (116 : Int32)), (.int (105 : Int32)), (.int (109 : Int32)), (.int (101 : Int32)), (.int (95 : Int32)), (.int (109 : Int32)), (.int (115 : Int32))]) (z := (16 : Int32)) ⟨by decide, rfl⟩ (by decide) rfl (g := (mkF m 7 #[.val (.ref a22_0)] [(.ref a22_0)])) rfl (hb hby d22_7) (n := 64) (by decide) (by decide) (by decide) (by decide)
  have hCR := hCR.trans hC1
  have Zs1 : n0 ≤ h1.size := Nat.le_trans Z0 E1.1
  have K1 : Keep h0 h1 [] := (Keep.refl h0 []).ext E1
  have F2 := S_RESPONSE_TIME.ext E1
  have F3 := S_THROUGHPUT.ext E1
  have F4 := S_COST.ext E1
  have F5 := Sc.ext E1
  have F6 := Es.ext E1
  have F7 := Fs.ext E1
  have F8 := Fz.ext E1
  have F9 := Vs.ext E1
  obtain ⟨cq10, kq10, q10a, q10b, q10c⟩ := isOf hZ e1 F6
  obtain ⟨_, _, ⟨T10, L10, k10, n10⟩, -, X10, ⟨Lc10, hQ10, l10, y10, z10⟩, st10⟩ := X1.virtualBack hx (y := (⟨"java/lang/String", "equals", "(Ljava/lang/Object;)Z"⟩ : MethodName)) (z := (⟨"java/lang/String", "equals", "(Ljava/lang/Object;)Z"⟩ : MethodName)) hown (mvT hZ (wd hw 121 rfl)) (mvT hZ (wd hw 98 rfl)) (notFace_of_selects (args := #[]) (mvT hZ (wd hw 100 rfl))) (mvT hZ (wd hw 100 rfl)) (mvT hZ (wd hw 99 rfl)) (by decide) (StrChars.Road.eqW (W := 0) hZ (fun d hd => hw d (own_sub_eqW d hd)) (kI := 4) (wd hw 3 rfl) (cs := la) F6 F7 F8 F9 (own_codG hnz hb_la) (own_u16 hb_la) hl_la (ds := own_LR) Ex1 Fv1 Fc1 V1 own_codR own_bdR (by decide) F5 hcs (by decide) (by decide)) q10a q10c (g := (mkF m 9 #[.val (.ref a22_0)] [(.ref b1), (.ref a22_0)])) rfl (by rw [hml]; rfl) (Steps.refl _) (argsL := [(.ref b1)]) (rest := []) (lenOf pd_7 rfl) rfl (by show 2 * 0 + _ ≤ _; exact Nat.le_of_eq rfl) (hb hby d22_9) (fun _ _ => ⟨rfl, e1, (by decide : 2 + 0 ≤ _), (by decide : 68 + 0 ≤ _)⟩)
  dsimp only [Pt.U, Pt.locs, Pt.cells, Pt.slots] at X10 l10 y10 z10 st10 hQ10
  rw [l10, y10, z10] at X10
  obtain ⟨hor10, rfl, eh10⟩ := hQ10
  have N10 := Fr.app N0 (Fr.nil n0)
  have hov10 := own_orF hor10 hnR
  subst hov10
  obtain ⟨b11, T11, h11, k11, d11, kb11, X11, e11, E11, hS, hk, hZ, hown, Ex11, Fc11, Fv11, V11, lta11, ltb11, hC11, hL11, hsf11, st11⟩ := ldcCH X10 hx hZ hown (wd hw 122 rfl) wS eh10 hS hk hEL (List.mem_of_getElem? (i := 1) rfl) hCR.1 (vs := [(.int (116 : Int32)), (.int (104 : Int32)), (.int (114 : Int32)), (.int (111 : Int32)), (.int (117 : Int32)), (.int (103 : Int32)), (.int (104 : Int32)), (.int (112 : Int32)), (.int (117 : Int32)), (.int (116 : Int32)), (.int (95 : Int32)), (.int (112 : Int32)), (.int (101 : Int32)), (.int (114 : Int32)), (.int (95 : Int32)), (.int (115 : Int32))]) (z := (16 : Int32)) ⟨by decide, rfl⟩ (by decide) rfl (g := (mkF m 20 #[.val (.ref a22_0)] [(.ref a22_0)])) rfl (hb hby d22_20) (n := 64) (by decide) (by decide) (by decide) (by decide)
  have hCR := hCR.trans hC11
  have Zs11 : n0 ≤ h11.size := Nat.le_trans Zs1 E11.1
  have K11 : Keep h0 h11 [] := K1.ext E11
  have F12 := F2.ext E11
  have F13 := F3.ext E11
  have F14 := F4.ext E11
  have F15 := F5.ext E11
  have F16 := F6.ext E11
  have F17 := F7.ext E11
  have F18 := F8.ext E11
  have F19 := F9.ext E11
  have F20 := Ex1.ext E11
  have F21 := Fc1.ext E11
  have F22 := Fv1.ext E11
  have F23 := V1.ext E11
  obtain ⟨cq24, kq24, q24a, q24b, q24c⟩ := isOf hZ e11 F16
  obtain ⟨_, _, ⟨T24, L24, k24, n24⟩, -, X24, ⟨Lc24, hQ24, l24, y24, z24⟩, st24⟩ := X11.virtualBack hx (y := (⟨"java/lang/String", "equals", "(Ljava/lang/Object;)Z"⟩ : MethodName)) (z := (⟨"java/lang/String", "equals", "(Ljava/lang/Object;)Z"⟩ : MethodName)) hown (mvT hZ (wd hw 121 rfl)) (mvT hZ (wd hw 98 rfl)) (notFace_of_selects (args := #[]) (mvT hZ (wd hw 100 rfl))) (mvT hZ (wd hw 100 rfl)) (mvT hZ (wd hw 99 rfl)) (by decide) (StrChars.Road.eqW (W := 0) hZ (fun d hd => hw d (own_sub_eqW d hd)) (kI := 4) (wd hw 3 rfl) (cs := la) F16 F17 F18 F19 (own_codG hnz hb_la) (own_u16 hb_la) hl_la (ds := own_LT) Ex11 Fv11 Fc11 V11 own_codT own_bdT (by decide) F15 hcs (by decide) (by decide)) q24a q24c (g := (mkF m 22 #[.val (.ref a22_0)] [(.ref b11), (.ref a22_0)])) rfl (by rw [hml]; rfl) (Steps.refl _) (argsL := [(.ref b11)]) (rest := []) (lenOf pd_7 rfl) rfl (by show 2 * 0 + _ ≤ _; exact Nat.le_of_eq rfl) (hb hby d22_22) (fun _ _ => ⟨rfl, e11, (by decide : 4 + 0 ≤ _), (by decide : 136 + 0 ≤ _)⟩)
  dsimp only [Pt.U, Pt.locs, Pt.cells, Pt.slots] at X24 l24 y24 z24 st24 hQ24
  rw [l24, y24, z24] at X24
  obtain ⟨hor24, rfl, eh24⟩ := hQ24
  have N24 := Fr.app N10 (Fr.nil n0)
  have hov24 := own_orF hor24 hnT
  subst hov24
  obtain ⟨b25, T25, h25, k25, d25, kb25, X25, e25, E25, hS, hk, hZ, hown, Ex25, Fc25, Fv25, V25, lta25, ltb25, hC25, hL25, hsf25, st25⟩ := ldcCH X24 hx hZ hown (wd hw 123 rfl) wS eh24 hS hk hEL (List.mem_of_getElem? (i := 2) rfl) hCR.1 (vs := [(.int (99 : Int32)), (.int (111 : Int32)), (.int (115 : Int32)), (.int (116 : Int32))]) (z := (4 : Int32)) ⟨by decide, rfl⟩ (by decide) rfl (g := (mkF m 33 #[.val (.ref a22_0)] [(.ref a22_0)])) rfl (hb hby d22_33) (n := 16) (by decide) (by decide) (by decide) (by decide)
  have hCR := hCR.trans hC25
  have Zs25 : n0 ≤ h25.size := Nat.le_trans Zs11 E25.1
  have K25 : Keep h0 h25 [] := K11.ext E25
  have F26 := F12.ext E25
  have F27 := F13.ext E25
  have F28 := F14.ext E25
  have F29 := F15.ext E25
  have F30 := F16.ext E25
  have F31 := F17.ext E25
  have F32 := F18.ext E25
  have F33 := F19.ext E25
  have F34 := F20.ext E25
  have F35 := F21.ext E25
  have F36 := F22.ext E25
  have F37 := F23.ext E25
  have F38 := Ex11.ext E25
  have F39 := Fc11.ext E25
  have F40 := Fv11.ext E25
  have F41 := V11.ext E25
  obtain ⟨cq42, kq42, q42a, q42b, q42c⟩ := isOf hZ e25 F30
  obtain ⟨_, _, ⟨T42, L42, k42, n42⟩, -, X42, ⟨Lc42, hQ42, l42, y42, z42⟩, st42⟩ := X25.virtualBack hx (y := (⟨"java/lang/String", "equals", "(Ljava/lang/Object;)Z"⟩ : MethodName)) (z := (⟨"java/lang/String", "equals", "(Ljava/lang/Object;)Z"⟩ : MethodName)) hown (mvT hZ (wd hw 121 rfl)) (mvT hZ (wd hw 98 rfl)) (notFace_of_selects (args := #[]) (mvT hZ (wd hw 100 rfl))) (mvT hZ (wd hw 100 rfl)) (mvT hZ (wd hw 99 rfl)) (by decide) (StrChars.Road.eqW (W := 0) hZ (fun d hd => hw d (own_sub_eqW d hd)) (kI := 4) (wd hw 3 rfl) (cs := la) F30 F31 F32 F33 (own_codG hnz hb_la) (own_u16 hb_la) hl_la (ds := own_LC) Ex25 Fv25 Fc25 V25 own_codC own_bdC (by decide) F29 hcs (by decide) (by decide)) q42a q42c (g := (mkF m 35 #[.val (.ref a22_0)] [(.ref b25), (.ref a22_0)])) rfl (by rw [hml]; rfl) (Steps.refl _) (argsL := [(.ref b25)]) (rest := []) (lenOf pd_7 rfl) rfl (by show 2 * 0 + _ ≤ _; exact Nat.le_of_eq rfl) (hb hby d22_35) (fun _ _ => ⟨rfl, e25, (by decide : 6 + 0 ≤ _), (by decide : 156 + 0 ≤ _)⟩)
  dsimp only [Pt.U, Pt.locs, Pt.cells, Pt.slots] at X42 l42 y42 z42 st42 hQ42
  rw [l42, y42, z42] at X42
  obtain ⟨hor42, rfl, eh42⟩ := hQ42
  have N42 := Fr.app N24 (Fr.nil n0)
  have hov42 := own_orF hor42 hnC
  subst hov42
  have k43 : ∀ t, Steps p.tables e below (T42.setTop (mkF m 46 #[.val (.ref a22_0)] [.null])) t → Steps p.tables e below (s₁.setTop (entryFrame m #[(.ref a22_0)] 1)) t := by
    intro t k
    refine pre0 t ?_
    refine XS.aloadN X0.here hx rfl (hb hby d22_0) rfl rfl ?_
    refine XS.ifnonnullYes X0.here hx rfl (pc0 := 1) (pc' := 6) rfl (hb hby d22_1) rfl (by decide) (by decide) ?_
    refine XS.aloadN X0.here hx rfl (hb hby d22_6) rfl rfl ?_
    refine st1 _ ?_
    refine st10.trans ?_
    refine XS.ifYes X10.here hx rfl (pc0 := 12) (pc' := 19) rfl (hb hby d22_12) rfl ((if0 _ _).trans (teq (by decide : (0 : Int32) = (0 : Int32))).1) (by decide) (by decide) ?_
    refine XS.aloadN X10.here hx rfl (hb hby d22_19) rfl rfl ?_
    refine st11 _ ?_
    refine st24.trans ?_
    refine XS.ifYes X24.here hx rfl (pc0 := 25) (pc' := 32) rfl (hb hby d22_25) rfl ((if0 _ _).trans (teq (by decide : (0 : Int32) = (0 : Int32))).1) (by decide) (by decide) ?_
    refine XS.aloadN X24.here hx rfl (hb hby d22_32) rfl rfl ?_
    refine st25 _ ?_
    refine st42.trans ?_
    refine XS.ifYes X42.here hx rfl (pc0 := 38) (pc' := 45) rfl (hb hby d22_38) rfl ((if0 _ _).trans (teq (by decide : (0 : Int32) = (0 : Int32))).1) (by decide) (by decide) ?_
    refine XS.aconstNull X42.here hx rfl (hb hby d22_45) ?_
    exact k
  obtain ⟨fs, hr, hrun, hended, hE1, hE2, hE3, hE4⟩ := X42.leaveW hS (by rw [eh42]; exact hk) (v := some .null) (fun h => by rw [Bd.returns] at h; cases h)
  have hCE := hCR.trans (CHv.at X42 hZ hEL hCR.1)
  refine ⟨_, _, k43 _ ?_, hrun, hended, _, _, rfl, ?_, (by show CHr Z consts_1 s.vm s.heap T42.vm T42.heap; rw [hh, eh42]; exact hCE), ⟨_, rfl⟩, hE2, hE3, hE4.mono (by decide) (by decide)⟩
  · exact retOut X42 hx Bd.returns rfl (Or.inr (Or.inr (Or.inr (Or.inr ⟨rfl, rfl, rfl⟩)))) (hb hby d22_46) hr
  · show Q22 Z a22_0 u_RESPONSE_TIME u_THROUGHPUT u_COST cs ta kt nz la h0 n0 _ T42.heap _
    rw [eh42]
    exact ⟨rfl, N42, K25⟩
theorem d23_0 : decode method_3_code 0 = .ok (.aload_n 0, 1) := by decide +kernel
theorem d23_1 : decode method_3_code 1 = .ok (.ifnonnull 5, 3) := by decide +kernel
theorem d23_4 : decode method_3_code 4 = .ok (.aconst_null, 1) := by decide +kernel
theorem d23_5 : decode method_3_code 5 = .ok (.areturn, 1) := by decide +kernel
theorem ef_23 (m : MethodId)  : entryFrame m #[.null] 1 = mkF m 0 #[.val .null] [] := by first | (simp [entryFrame, mkF, argsToLocals, Value.category]; done) | rfl
def Q23 (Z : State)  (h0 : Heap) (n0 : Nat) (v : Option Value) (h : Heap) (L : List Loc) : Prop := v = some .null ∧ Fr n0 L ∧ h = h0
set_option maxRecDepth 65536 in
set_option maxHeartbeats 40000000 in
theorem rm23 (l : Launch) (Z : State) (a0 : Array Value) (hw : ∀ d ∈ tables_1, d.before a0 Z = true) (ws : List Jvm.Cond)  (h0 : Heap) (n0 : Nat) (Z0 : n0 ≤ h0.size) :
    MetFree l (⟨"com/example/leanweave/leanweave/QosMeasureOfColumnPinLaw", "ref", "(Ljava/lang/String;)Lcom/example/leanweave/leanweave/QosMeasure;"⟩ : MethodName) (head1 (Jvm.Cond.code (⟨"com/example/leanweave/leanweave/QosMeasureOfColumnPinLaw", "ref", "(Ljava/lang/String;)Lcom/example/leanweave/leanweave/QosMeasure;"⟩ : MethodName) method_3_code 1 (some (.object "com/example/leanweave/leanweave/QosMeasure")) :: ws) ({ frames := 0, cells := 0, slots := 0, locals := 0 } : Room)) (fun a U => a = #[.null] ∧ Z.Warmed39 U.vm ∧ U.heap = h0) (fun _ _ _ _ _ => True) (fun _ U o U' => ∃ v L, o = .returned v ∧ Q23 Z  h0 n0 v U'.heap L ∧ FrameEnd U o U' L ({ frames := 0, cells := 0, slots := 0, locals := 0 } : Room).cells ({ frames := 0, cells := 0, slots := 0, locals := 0 } : Room).slots) := by
  refine MetFree.of_bodySF (plainFor_of_name pn_1) hisR ?_
  intro p e s m args below meth c s₁ Bd hml0 hP hK
  obtain ⟨rfl, hZ, hh⟩ := hP
  have hx := Bd.exec
  have hby := Bd.bytes
  have hml : c.maxLocals = 1 := hml0
  have hown : s.vm.findClass "com/example/leanweave/leanweave/QosMeasureOfColumnPinLaw" = some m.cls := findClass_of_methodNamed Bd.named
  have hnm := (name_of_methodNamed Bd.named Bd.method).1
  have X0 : Stand p l e ({ frames := 0, cells := 0, slots := 0, locals := 0 } : Room) s m #[.null] below meth c s₁ [] 0 0 := Stand.of_body Bd
  have e0 : s₁.heap = h0 := by rw [← hh, Bd.state]; rfl
  have N0 := Fr.nil n0
  have pre0 : ∀ t, Steps p.tables e below (s₁.setTop (mkF m 0 #[.val .null] [])) t → Steps p.tables e below (s₁.setTop (entryFrame m #[.null] 1)) t := fun t k => castTop (ef_23 m ) k
  have k1 : ∀ t, Steps p.tables e below (s₁.setTop (mkF m 5 #[.val .null] [.null])) t → Steps p.tables e below (s₁.setTop (entryFrame m #[.null] 1)) t := by
    intro t k
    refine pre0 t ?_
    refine XS.aloadN X0.here hx rfl (hb hby d23_0) rfl rfl ?_
    refine XS.ifnonnullNo X0.here hx rfl (hb hby d23_1) rfl ?_
    refine XS.aconstNull X0.here hx rfl (hb hby d23_4) ?_
    exact k
  obtain ⟨fs, hr, hrun, hended, hW, hsame⟩ := X0.leave (v := some .null) (fun h => by rw [Bd.returns] at h; cases h)
  refine ⟨_, _, k1 _ ?_, hrun, hended, _, _, rfl, ?_, ⟨_, rfl⟩, hW, hsame.mono (by decide) (by decide)⟩
  · exact retOut X0 hx Bd.returns rfl (Or.inr (Or.inr (Or.inr (Or.inr ⟨rfl, rfl, rfl⟩)))) (hb hby d23_5) hr
  · show Q23 Z  h0 n0 _ s₁.heap _
    rw [e0]
    exact ⟨rfl, N0, rfl⟩
theorem pd_10 : parseMethodDescriptor "(Ljava/lang/String;)Ljava/util/Optional;" = some ⟨[(.object "java/lang/String")], some (.object "java/util/Optional")⟩ := by decide +kernel
theorem pd_11 : parseMethodDescriptor "(Ljava/lang/String;)Lcom/example/leanweave/leanweave/QosMeasure;" = some ⟨[(.object "java/lang/String")], some (.object "com/example/leanweave/leanweave/QosMeasure")⟩ := by decide +kernel
set_option maxRecDepth 65536 in
set_option maxHeartbeats 40000000 in
theorem sgs1 {p : Program} {l : Launch} {e : Env} {s : State} {m : MethodId} {args : Array Value} {below : List Frame} {meth : Method} {c : Code} {s₁ : State} {locs : List Loc} {vm0 : Vm} {k0 : Nat} {hs0 : Heap} {Z : State} {a0 : Array Value} (hw : ∀ d ∈ tables_1, d.before a0 Z = true) (hEL : EW Z a0 consts_1) (wS : ∀ a ∈ Bundle.stringAtoms, a.before a0 Z = true) (hb0 : Heap) (p0_0 : Int32) (p0_1 : Int32) (p0_2 : Int32) (p0_3 : Int32) (p0_4 : Int32) (p0_5 : Int32) (zm : Int32) (zk : Int32) (xs : Addr) (sl11 : Slot) (sl12 : Slot) (y9 : Addr) (sl10 : Slot) (u_EMPTY : Addr) (u__VALUES : Addr) (cl_u__VALUES : Cell) (u_RESPONSE_TIME : Addr) (u_THROUGHPUT : Addr) (u_COST : Addr) (u_RESPONSE_TIME_column : Addr) (u_RESPONSE_TIME_column_value : Addr) (cl_u_RESPONSE_TIME_column_value : Cell) (u_THROUGHPUT_column : Addr) (u_THROUGHPUT_column_value : Addr) (cl_u_THROUGHPUT_column_value : Cell) (u_COST_column : Addr) (u_COST_column_value : Addr) (cl_u_COST_column_value : Cell) (cs : Int32) (ta : Addr) (kt : ClassId) (nz : Int32) (la : List Int32) (h0 : Heap) (n0 : Nat) (Z0 : n0 ≤ h0.size) (S_EMPTY : Sta Z hb0 "java/util/Optional" "EMPTY" "Ljava/util/Optional;" (.ref u_EMPTY)) (E_u_EMPTY : Exa Z hb0 u_EMPTY "java/util/Optional") (F_u_EMPTY_value : Fld Z hb0 u_EMPTY "java/util/Optional" "value" "Ljava/lang/Object;" .null) (S__VALUES : Sta Z hb0 "com/example/leanweave/leanweave/QosMeasure" "$VALUES" "[Lcom/example/leanweave/leanweave/QosMeasure;" (.ref u__VALUES)) (E_u__VALUES : Exa Z hb0 u__VALUES "[Lcom/example/leanweave/leanweave/QosMeasure;") (S_RESPONSE_TIME : Sta Z hb0 "com/example/leanweave/leanweave/QosMeasure" "RESPONSE_TIME" "Lcom/example/leanweave/leanweave/QosMeasure;" (.ref u_RESPONSE_TIME)) (E_u_RESPONSE_TIME : Exa Z hb0 u_RESPONSE_TIME "com/example/leanweave/leanweave/QosMeasure") (S_THROUGHPUT : Sta Z hb0 "com/example/leanweave/leanweave/QosMeasure" "THROUGHPUT" "Lcom/example/leanweave/leanweave/QosMeasure;" (.ref u_THROUGHPUT)) (E_u_THROUGHPUT : Exa Z hb0 u_THROUGHPUT "com/example/leanweave/leanweave/QosMeasure") (S_COST : Sta Z hb0 "com/example/leanweave/leanweave/QosMeasure" "COST" "Lcom/example/leanweave/leanweave/QosMeasure;" (.ref u_COST)) (E_u_COST : Exa Z hb0 u_COST "com/example/leanweave/leanweave/QosMeasure") (F_u_RESPONSE_TIME_column : Fld Z hb0 u_RESPONSE_TIME "com/example/leanweave/leanweave/QosMeasure" "column" "Ljava/lang/String;" (.ref u_RESPONSE_TIME_column)) (E_u_RESPONSE_TIME_column : Exa Z hb0 u_RESPONSE_TIME_column "java/lang/String") (F_u_RESPONSE_TIME_column_coder : Fld Z hb0 u_RESPONSE_TIME_column "java/lang/String" "coder" "B" (.int (0 : Int32))) (F_u_RESPONSE_TIME_column_value : Fld Z hb0 u_RESPONSE_TIME_column "java/lang/String" "value" "[B" (.ref u_RESPONSE_TIME_column_value)) (F_u_THROUGHPUT_column : Fld Z hb0 u_THROUGHPUT "com/example/leanweave/leanweave/QosMeasure" "column" "Ljava/lang/String;" (.ref u_THROUGHPUT_column)) (E_u_THROUGHPUT_column : Exa Z hb0 u_THROUGHPUT_column "java/lang/String") (F_u_THROUGHPUT_column_coder : Fld Z hb0 u_THROUGHPUT_column "java/lang/String" "coder" "B" (.int (0 : Int32))) (F_u_THROUGHPUT_column_value : Fld Z hb0 u_THROUGHPUT_column "java/lang/String" "value" "[B" (.ref u_THROUGHPUT_column_value)) (F_u_COST_column : Fld Z hb0 u_COST "com/example/leanweave/leanweave/QosMeasure" "column" "Ljava/lang/String;" (.ref u_COST_column)) (E_u_COST_column : Exa Z hb0 u_COST_column "java/lang/String") (F_u_COST_column_coder : Fld Z hb0 u_COST_column "java/lang/String" "coder" "B" (.int (0 : Int32))) (F_u_COST_column_value : Fld Z hb0 u_COST_column "java/lang/String" "value" "[B" (.ref u_COST_column_value)) (V_u__VALUES : Arv Z hb0 u__VALUES cl_u__VALUES.cls (.object "com/example/leanweave/leanweave/QosMeasure") (3 : Int32) [(.ref u_RESPONSE_TIME), (.ref u_THROUGHPUT), (.ref u_COST)] .null) (V_u_RESPONSE_TIME_column_value : Arv Z hb0 u_RESPONSE_TIME_column_value cl_u_RESPONSE_TIME_column_value.cls .byte (16 : Int32) [(.int (114 : Int32)), (.int (101 : Int32)), (.int (115 : Int32)), (.int (112 : Int32)), (.int (111 : Int32)), (.int (110 : Int32)), (.int (115 : Int32)), (.int (101 : Int32)), (.int (95 : Int32)), (.int (116 : Int32)), (.int (105 : Int32)), (.int (109 : Int32)), (.int (101 : Int32)), (.int (95 : Int32)), (.int (109 : Int32)), (.int (115 : Int32))] (.int (0 : Int32))) (V_u_THROUGHPUT_column_value : Arv Z hb0 u_THROUGHPUT_column_value cl_u_THROUGHPUT_column_value.cls .byte (16 : Int32) [(.int (116 : Int32)), (.int (104 : Int32)), (.int (114 : Int32)), (.int (111 : Int32)), (.int (117 : Int32)), (.int (103 : Int32)), (.int (104 : Int32)), (.int (112 : Int32)), (.int (117 : Int32)), (.int (116 : Int32)), (.int (95 : Int32)), (.int (112 : Int32)), (.int (101 : Int32)), (.int (114 : Int32)), (.int (95 : Int32)), (.int (115 : Int32))] (.int (0 : Int32))) (V_u_COST_column_value : Arv Z hb0 u_COST_column_value cl_u_COST_column_value.cls .byte (4 : Int32) [(.int (99 : Int32)), (.int (111 : Int32)), (.int (115 : Int32)), (.int (116 : Int32))] (.int (0 : Int32))) (Kb : Keep hb0 h0 []) (Sc : Sta Z h0 "java/lang/String" "COMPACT_STRINGS" "Z" (.int cs)) (Es : Exa Z h0 xs "java/lang/String") (Fs : Fld Z h0 xs "java/lang/String" "value" "[B" (.ref ta)) (Fz : Fld Z h0 xs "java/lang/String" "coder" "B" (.int (0 : Int32))) (Vs : Arv Z h0 ta kt .byte nz (List.map Value.int (List.map (fun c => c.toInt8.toInt32) la)) (.int (0 : Int32))) (hcs : ¬ (cs = (0 : Int32))) (h_sl10 : sl10 = .unset ∨ ∃ w, sl10 = .val w ∧ w.category = 1) (hnz : nz = Int32.ofNat la.length) (hb_la : ∀ c ∈ la, ¬ c < 0 ∧ ¬ (255 : Int32) < c) (hl_la : la.length ≤ 4000)
    (X0 : Stand p l e room_1 (s.setVm vm0) m args below meth c s₁ locs 12 300) (hx : p.tables.exec = Jvm.exec) (hZ : Z.Warmed39 (s.setVm vm0).vm) (hby : c.code = code) (hml : c.maxLocals = 13) (hown : (s.setVm vm0).vm.findClass "com/example/leanweave/leanweave/QosMeasureOfColumnPinLaw" = some m.cls) (hret : meth.sig.returnType = some .boolean) (hlk : meth.locks = false) (e0 : s₁.heap = h0) (N0 : Fr n0 locs) (hh : s.heap = hs0) (hS : s.Since vm0 k0) (hk : k0 ≤ h0.size) (hCR : CHr Z consts_1 s.vm hs0 vm0 h0) :
    ∃ t o, Steps p.tables e below (s₁.setTop (mkF m 242 #[.val (.int p0_0), .val (.int p0_1), .val (.int p0_2), .val (.int p0_3), .val (.int p0_4), .val (.int p0_5), .val (.int zm), .val (.int zk), .val (.ref xs), .val (.ref y9), sl10, sl11, sl12] [])) t ∧ t.status = .running ∧ Ended t below o ∧ ∃ v L, o = .returned v ∧ (v = some (.int (1 : Int32)) ∧ Fr n0 L) ∧ CHr Z consts_1 s.vm s.heap t.vm t.heap ∧ ReturnedEndW s o t L 32 4288 := by
  have pre0 : ∀ t, Steps p.tables e below (s₁.setTop (mkF m 242 #[.val (.int p0_0), .val (.int p0_1), .val (.int p0_2), .val (.int p0_3), .val (.int p0_4), .val (.int p0_5), .val (.int zm), .val (.int zk), .val (.ref xs), .val (.ref y9), sl10, sl11, sl12] [])) t → Steps p.tables e below (s₁.setTop (mkF m 242 #[.val (.int p0_0), .val (.int p0_1), .val (.int p0_2), .val (.int p0_3), .val (.int p0_4), .val (.int p0_5), .val (.int zm), .val (.int zk), .val (.ref xs), .val (.ref y9), sl10, sl11, sl12] [])) t := fun t k => k
  have S_EMPTYk := own_stakeep S_EMPTY Kb all0
  have E_u_EMPTYk := E_u_EMPTY.keep Kb
  have F_u_EMPTY_valuek := F_u_EMPTY_value.keep Kb nin0
  have S__VALUESk := own_stakeep S__VALUES Kb all0
  have E_u__VALUESk := E_u__VALUES.keep Kb
  have S_RESPONSE_TIMEk := own_stakeep S_RESPONSE_TIME Kb all0
  have E_u_RESPONSE_TIMEk := E_u_RESPONSE_TIME.keep Kb
  have S_THROUGHPUTk := own_stakeep S_THROUGHPUT Kb all0
  have E_u_THROUGHPUTk := E_u_THROUGHPUT.keep Kb
  have S_COSTk := own_stakeep S_COST Kb all0
  have E_u_COSTk := E_u_COST.keep Kb
  have F_u_RESPONSE_TIME_columnk := F_u_RESPONSE_TIME_column.keep Kb nin0
  have E_u_RESPONSE_TIME_columnk := E_u_RESPONSE_TIME_column.keep Kb
  have F_u_RESPONSE_TIME_column_coderk := F_u_RESPONSE_TIME_column_coder.keep Kb nin0
  have F_u_RESPONSE_TIME_column_valuek := F_u_RESPONSE_TIME_column_value.keep Kb nin0
  have F_u_THROUGHPUT_columnk := F_u_THROUGHPUT_column.keep Kb nin0
  have E_u_THROUGHPUT_columnk := E_u_THROUGHPUT_column.keep Kb
  have F_u_THROUGHPUT_column_coderk := F_u_THROUGHPUT_column_coder.keep Kb nin0
  have F_u_THROUGHPUT_column_valuek := F_u_THROUGHPUT_column_value.keep Kb nin0
  have F_u_COST_columnk := F_u_COST_column.keep Kb nin0
  have E_u_COST_columnk := E_u_COST_column.keep Kb
  have F_u_COST_column_coderk := F_u_COST_column_coder.keep Kb nin0
  have F_u_COST_column_valuek := F_u_COST_column_value.keep Kb nin0
  have V_u__VALUESk := V_u__VALUES.keep Kb nin0
  have V_u_RESPONSE_TIME_column_valuek := V_u_RESPONSE_TIME_column_value.keep Kb nin0
  have V_u_THROUGHPUT_column_valuek := V_u_THROUGHPUT_column_value.keep Kb nin0
  have V_u_COST_column_valuek := V_u_COST_column_value.keep Kb nin0
  by_cases hqR : la = own_LR
  · skip
    obtain ⟨_, _, ⟨T1, L1, k1, n1⟩, -, X1, ⟨Lc1, hQ1, l1, y1, z1⟩, st1⟩ := Jvm.LawKit.callS X0 hx (y := (⟨"com/example/leanweave/leanweave/QosMeasure", "ofColumn", "(Ljava/lang/String;)Ljava/util/Optional;"⟩ : MethodName)) hown (mvT hZ (wd hw 73 rfl)) (mvT hZ (wd hw 74 rfl)) (mvT hZ (wd hw 75 rfl)) (mvT hZ (wd hw 76 rfl)) (by decide) (backOf (W := 0) (rm14 l Z a0 hw [] xs u_EMPTY u__VALUES cl_u__VALUES u_RESPONSE_TIME u_THROUGHPUT u_COST u_RESPONSE_TIME_column u_RESPONSE_TIME_column_value cl_u_RESPONSE_TIME_column_value u_THROUGHPUT_column u_THROUGHPUT_column_value cl_u_THROUGHPUT_column_value u_COST_column u_COST_column_value cl_u_COST_column_value cs ta kt nz la h0 n0 Z0 S_EMPTYk E_u_EMPTYk F_u_EMPTY_valuek S__VALUESk E_u__VALUESk S_RESPONSE_TIMEk E_u_RESPONSE_TIMEk S_THROUGHPUTk E_u_THROUGHPUTk S_COSTk E_u_COSTk F_u_RESPONSE_TIME_columnk E_u_RESPONSE_TIME_columnk F_u_RESPONSE_TIME_column_coderk F_u_RESPONSE_TIME_column_valuek F_u_THROUGHPUT_columnk E_u_THROUGHPUT_columnk F_u_THROUGHPUT_column_coderk F_u_THROUGHPUT_column_valuek F_u_COST_columnk E_u_COST_columnk F_u_COST_column_coderk F_u_COST_column_valuek V_u__VALUESk V_u_RESPONSE_TIME_column_valuek V_u_THROUGHPUT_column_valuek V_u_COST_column_valuek Sc Es Fs Fz Vs hcs hnz hb_la hl_la hqR) hZ (wd hw 76 rfl) (wd hw 75 rfl) (by decide) (by decide)) (g := (mkF m 244 #[.val (.int p0_0), .val (.int p0_1), .val (.int p0_2), .val (.int p0_3), .val (.int p0_4), .val (.int p0_5), .val (.int zm), .val (.int zk), .val (.ref xs), .val (.ref y9), sl10, sl11, sl12] [(.ref xs)])) rfl (by rw [hml]; rfl) (argsL := [(.ref xs)]) (rest := []) (lenOf pd_10 rfl) rfl (by show 2 * 0 + _ ≤ _; exact Nat.le_of_eq rfl) (hb hby at_244) (fun _ _ => ⟨rfl, e0, (by decide : 12 + 2 ≤ _), (by decide : 300 + 4 ≤ _)⟩)
    dsimp only [Pt.U, Pt.locs, Pt.cells, Pt.slots] at X1 l1 y1 z1 st1 hQ1
    rw [l1, y1, z1] at X1
    obtain ⟨ro_1, rfl, N1q, Kc1, ggro_1, szro_1, G1_0, G1_1⟩ := hQ1
    have ne2 : xs ≠ ro_1 := Nat.ne_of_lt (Nat.lt_of_lt_of_le Es.lt szro_1)
    have ne3 : ta ≠ ro_1 := Nat.ne_of_lt (Nat.lt_of_lt_of_le Vs.lt szro_1)
    have ne4 : u_EMPTY ≠ ro_1 := Nat.ne_of_lt (Nat.lt_of_lt_of_le E_u_EMPTYk.lt szro_1)
    have ne5 : u__VALUES ≠ ro_1 := Nat.ne_of_lt (Nat.lt_of_lt_of_le E_u__VALUESk.lt szro_1)
    have ne6 : u_RESPONSE_TIME ≠ ro_1 := Nat.ne_of_lt (Nat.lt_of_lt_of_le E_u_RESPONSE_TIMEk.lt szro_1)
    have ne7 : u_THROUGHPUT ≠ ro_1 := Nat.ne_of_lt (Nat.lt_of_lt_of_le E_u_THROUGHPUTk.lt szro_1)
    have ne8 : u_COST ≠ ro_1 := Nat.ne_of_lt (Nat.lt_of_lt_of_le E_u_COSTk.lt szro_1)
    have ne9 : u_RESPONSE_TIME_column ≠ ro_1 := Nat.ne_of_lt (Nat.lt_of_lt_of_le E_u_RESPONSE_TIME_columnk.lt szro_1)
    have ne10 : u_THROUGHPUT_column ≠ ro_1 := Nat.ne_of_lt (Nat.lt_of_lt_of_le E_u_THROUGHPUT_columnk.lt szro_1)
    have ne11 : u_COST_column ≠ ro_1 := Nat.ne_of_lt (Nat.lt_of_lt_of_le E_u_COST_columnk.lt szro_1)
    have ne12 : u_RESPONSE_TIME_column_value ≠ ro_1 := Nat.ne_of_lt (Nat.lt_of_lt_of_le V_u_RESPONSE_TIME_column_valuek.lt szro_1)
    have ne13 : u_THROUGHPUT_column_value ≠ ro_1 := Nat.ne_of_lt (Nat.lt_of_lt_of_le V_u_THROUGHPUT_column_valuek.lt szro_1)
    have ne14 : u_COST_column_value ≠ ro_1 := Nat.ne_of_lt (Nat.lt_of_lt_of_le V_u_COST_column_valuek.lt szro_1)
    have Zs1 : n0 ≤ T1.heap.size := Nat.le_trans Z0 Kc1.1
    have hCR := hCR.trans (CHr.keep Kc1 sf0 hCR.1)
    have hk := Nat.le_trans hk Kc1.1
    have F15 := own_stakeep Sc Kc1 all0
    have F16 := Es.keep Kc1
    have F17 := Fs.keep Kc1 nin0
    have F18 := Fz.keep Kc1 nin0
    have F19 := Vs.keep Kc1 nin0
    have F20 := own_stakeep S_EMPTYk Kc1 all0
    have F21 := E_u_EMPTYk.keep Kc1
    have F22 := F_u_EMPTY_valuek.keep Kc1 nin0
    have F23 := own_stakeep S__VALUESk Kc1 all0
    have F24 := E_u__VALUESk.keep Kc1
    have F25 := own_stakeep S_RESPONSE_TIMEk Kc1 all0
    have F26 := E_u_RESPONSE_TIMEk.keep Kc1
    have F27 := own_stakeep S_THROUGHPUTk Kc1 all0
    have F28 := E_u_THROUGHPUTk.keep Kc1
    have F29 := own_stakeep S_COSTk Kc1 all0
    have F30 := E_u_COSTk.keep Kc1
    have F31 := F_u_RESPONSE_TIME_columnk.keep Kc1 nin0
    have F32 := E_u_RESPONSE_TIME_columnk.keep Kc1
    have F33 := F_u_RESPONSE_TIME_column_coderk.keep Kc1 nin0
    have F34 := F_u_RESPONSE_TIME_column_valuek.keep Kc1 nin0
    have F35 := F_u_THROUGHPUT_columnk.keep Kc1 nin0
    have F36 := E_u_THROUGHPUT_columnk.keep Kc1
    have F37 := F_u_THROUGHPUT_column_coderk.keep Kc1 nin0
    have F38 := F_u_THROUGHPUT_column_valuek.keep Kc1 nin0
    have F39 := F_u_COST_columnk.keep Kc1 nin0
    have F40 := E_u_COST_columnk.keep Kc1
    have F41 := F_u_COST_column_coderk.keep Kc1 nin0
    have F42 := F_u_COST_column_valuek.keep Kc1 nin0
    have F43 := V_u__VALUESk.keep Kc1 nin0
    have F44 := V_u_RESPONSE_TIME_column_valuek.keep Kc1 nin0
    have F45 := V_u_THROUGHPUT_column_valuek.keep Kc1 nin0
    have F46 := V_u_COST_column_valuek.keep Kc1 nin0
    have N1 := Fr.app N0 N1q
    obtain ⟨cq47, kq47, q47a, q47b, q47c⟩ := isOf hZ rfl G1_0
    obtain ⟨_, _, ⟨T47, L47, k47, n47⟩, -, X47, ⟨Lc47, hQ47, l47, y47, z47⟩, st47⟩ := X1.virtualBack hx (y := (⟨"java/util/Optional", "orElse", "(Ljava/lang/Object;)Ljava/lang/Object;"⟩ : MethodName)) (z := (⟨"java/util/Optional", "orElse", "(Ljava/lang/Object;)Ljava/lang/Object;"⟩ : MethodName)) hown (mvT hZ (wd hw 111 rfl)) (mvT hZ (wd hw 112 rfl)) (notFace_of_selects (args := #[]) (mvT hZ (wd hw 114 rfl))) (mvT hZ (wd hw 114 rfl)) (mvT hZ (wd hw 113 rfl)) (by decide) (backOf (W := 0) (rm12 l Z a0 hw [] ro_1 u_RESPONSE_TIME T1.heap n0 Zs1 G1_1) hZ (wd hw 115 rfl) (wd hw 108 rfl) (by decide) (by decide)) q47a q47c (g := (mkF m 259 #[.val (.int p0_0), .val (.int p0_1), .val (.int p0_2), .val (.int p0_3), .val (.int p0_4), .val (.int p0_5), .val (.int zm), .val (.int zk), .val (.ref xs), .val (.ref ro_1), sl10, sl11, sl12] [.null, (.ref ro_1)])) rfl (by rw [hml]; rfl) (Steps.refl _) (argsL := [.null]) (rest := []) (lenOf pd_4 rfl) rfl (by show 2 * 0 + _ ≤ _; exact Nat.le_of_eq rfl) (hb hby at_259) (fun _ _ => ⟨rfl, rfl, (by decide : 14 + 0 ≤ _), (by decide : 304 + 0 ≤ _)⟩)
    dsimp only [Pt.U, Pt.locs, Pt.cells, Pt.slots] at X47 l47 y47 z47 st47 hQ47
    rw [l47, y47, z47] at X47
    obtain ⟨rfl, N47q, eh47⟩ := hQ47
    have N47 := Fr.app N1 N47q
    obtain ⟨T48, X48, e48, st48⟩ := castY X47 hx hZ hown (wd hw 138 rfl) eh47 (Ins.self F26) (g := (mkF m 262 #[.val (.int p0_0), .val (.int p0_1), .val (.int p0_2), .val (.int p0_3), .val (.int p0_4), .val (.int p0_5), .val (.int zm), .val (.int zk), .val (.ref xs), .val (.ref ro_1), sl10, sl11, sl12] [(.ref u_RESPONSE_TIME)])) rfl rfl (hb hby at_262)
    obtain ⟨_, _, ⟨T49, L49, k49, n49⟩, -, X49, hS2, hg2, ⟨Lc49, hQ49, l49, y49, z49, hC49⟩, st49⟩ := callSS X48 hx (y := (⟨"com/example/leanweave/leanweave/QosMeasureOfColumnPinLaw", "ref", "(Ljava/lang/String;)Lcom/example/leanweave/leanweave/QosMeasure;"⟩ : MethodName)) hown (mvT hZ (wd hw 118 rfl)) (mvT hZ (wd hw 119 rfl)) (mvT hZ (wd hw 25 rfl)) (mvT hZ (wd hw 120 rfl)) (by decide) (backOfSH (W := 1) (rm19 l Z a0 hw [] hEL wS xs u_RESPONSE_TIME u_THROUGHPUT u_COST cs ta kt nz la T1.heap n0 Zs1 F25 F27 F29 F15 F16 F17 F18 F19 hcs hnz hb_la hl_la hqR) hZ (wd hw 120 rfl) (wd hw 25 rfl) (by decide) (by decide) hEL hCR.1) (g := (mkF m 271 #[.val (.int p0_0), .val (.int p0_1), .val (.int p0_2), .val (.int p0_3), .val (.int p0_4), .val (.int p0_5), .val (.int zm), .val (.int zk), .val (.ref xs), .val (.ref ro_1), .val (.ref u_RESPONSE_TIME), sl11, sl12] [(.ref xs), (.ref u_RESPONSE_TIME)])) rfl (by rw [hml]; rfl) (argsL := [(.ref xs)]) (rest := [(.ref u_RESPONSE_TIME)]) (lenOf pd_11 rfl) rfl (by show 2 * 0 + _ ≤ _; exact Nat.le_of_eq rfl) (hb hby at_271) (fun _ _ => ⟨rfl, e48, (by decide : 14 + 2 ≤ _), (by decide : 304 + 68 ≤ _)⟩)
    dsimp only [Pt.U, Pt.locs, Pt.cells, Pt.slots] at X49 hS2 hg2 hC49 l49 y49 z49 st49 hQ49
    rw [l49, y49, z49] at X49
    obtain ⟨X49, hS, hZ, hown⟩ := rebS hS (by rw [e48]; exact hk) X49 hS2 hg2 hZ hown
    have hk := Nat.le_refl T49.heap.size
    have hCR := hCR.trans hC49
    obtain ⟨rfl, N49q, Kc49⟩ := hQ49
    have Zs49 : n0 ≤ T49.heap.size := Nat.le_trans Zs1 Kc49.1
    have F50 := own_stakeep F15 Kc49 all0
    have F51 := F16.keep Kc49
    have F52 := F17.keep Kc49 nin0
    have F53 := F18.keep Kc49 nin0
    have F54 := F19.keep Kc49 nin0
    have F55 := own_stakeep F20 Kc49 all0
    have F56 := F21.keep Kc49
    have F57 := F22.keep Kc49 nin0
    have F58 := own_stakeep F23 Kc49 all0
    have F59 := F24.keep Kc49
    have F60 := own_stakeep F25 Kc49 all0
    have F61 := F26.keep Kc49
    have F62 := own_stakeep F27 Kc49 all0
    have F63 := F28.keep Kc49
    have F64 := own_stakeep F29 Kc49 all0
    have F65 := F30.keep Kc49
    have F66 := F31.keep Kc49 nin0
    have F67 := F32.keep Kc49
    have F68 := F33.keep Kc49 nin0
    have F69 := F34.keep Kc49 nin0
    have F70 := F35.keep Kc49 nin0
    have F71 := F36.keep Kc49
    have F72 := F37.keep Kc49 nin0
    have F73 := F38.keep Kc49 nin0
    have F74 := F39.keep Kc49 nin0
    have F75 := F40.keep Kc49
    have F76 := F41.keep Kc49 nin0
    have F77 := F42.keep Kc49 nin0
    have F78 := F43.keep Kc49 nin0
    have F79 := F44.keep Kc49 nin0
    have F80 := F45.keep Kc49 nin0
    have F81 := F46.keep Kc49 nin0
    have F82 := G1_0.keep Kc49
    have F83 := G1_1.keep Kc49 nin0
    have N49 := Fr.app N47 N49q
    have k84 : ∀ t, Steps p.tables e below (T49.setTop (mkF m 282 #[.val (.int p0_0), .val (.int p0_1), .val (.int p0_2), .val (.int p0_3), .val (.int p0_4), .val (.int p0_5), .val (.int zm), .val (.int zk), .val (.ref xs), .val (.ref ro_1), .val (.ref u_RESPONSE_TIME), sl11, sl12] [(.int (1 : Int32))])) t → Steps p.tables e below (s₁.setTop (mkF m 242 #[.val (.int p0_0), .val (.int p0_1), .val (.int p0_2), .val (.int p0_3), .val (.int p0_4), .val (.int p0_5), .val (.int zm), .val (.int zk), .val (.ref xs), .val (.ref y9), sl10, sl11, sl12] [])) t := by
      intro t k
      refine pre0 t ?_
      refine XS.aload X0.here hx rfl (hb hby at_242) rfl rfl ?_
      refine st1 _ ?_
      refine XS.astore X1.here hx rfl (hb hby at_247) rfl rfl (l' := #[.val (.int p0_0), .val (.int p0_1), .val (.int p0_2), .val (.int p0_3), .val (.int p0_4), .val (.int p0_5), .val (.int zm), .val (.int zk), .val (.ref xs), .val (.ref ro_1), sl10, sl11, sl12]) rfl ?_
      refine XS.aload X1.here hx rfl (hb hby at_249) rfl rfl ?_
      refine XS.ifnonnullYes X1.here hx rfl (pc0 := 251) (pc' := 256) rfl (hb hby at_251) rfl (by decide) (by decide) ?_
      refine XS.aload X1.here hx rfl (hb hby at_256) rfl rfl ?_
      refine XS.aconstNull X1.here hx rfl (hb hby at_258) ?_
      refine st47.trans ?_
      refine st48 _ ?_
      refine XS.astoreS X48.here hx rfl (hb hby at_265) rfl rfl rfl rfl h_sl10 ?_
      show Steps p.tables e below (T48.setTop (mkF m 267 #[.val (.int p0_0), .val (.int p0_1), .val (.int p0_2), .val (.int p0_3), .val (.int p0_4), .val (.int p0_5), .val (.int zm), .val (.int zk), .val (.ref xs), .val (.ref ro_1), .val (.ref u_RESPONSE_TIME), sl11, sl12] [])) _
      refine XS.aload X48.here hx rfl (hb hby at_267) rfl rfl ?_
      refine XS.aload X48.here hx rfl (hb hby at_269) rfl rfl ?_
      refine st49.trans ?_
      refine Jvm.RoadKit.acmp (g := (mkF m 274 #[.val (.int p0_0), .val (.int p0_1), .val (.int p0_2), .val (.int p0_3), .val (.int p0_4), .val (.int p0_5), .val (.int zm), .val (.int zk), .val (.ref xs), .val (.ref ro_1), .val (.ref u_RESPONSE_TIME), sl11, sl12] [(.ref u_RESPONSE_TIME), (.ref u_RESPONSE_TIME)])) X49 hx rfl rfl rfl (pc0 := 274) (pc' := 277) (same := true) rfl (hb hby at_274) rfl (decide_eq_true rfl) (by decide) (by decide) ?_
      refine XS.iconst X49.here hx rfl (hb hby at_277) ?_
      refine XS.goto X49.here hx rfl (pc0 := 278) (pc' := 282) rfl (hb hby at_278) (by decide) (by decide) ?_
      exact k
    obtain ⟨fs, hr, hrun, hended, hE1, hE2, hE3, hE4⟩ := X49.leaveW hS hk (v := some (.int (1 : Int32))) (fun h => by rw [hret] at h; cases h)
    have hCE := hCR.trans (CHv.at X49 hZ hEL hCR.1)
    refine ⟨_, _, k84 _ ?_, hrun, hended, _, _, rfl, ?_, (by show CHr Z consts_1 s.vm s.heap T49.vm T49.heap; rw [hh]; exact hCE), ⟨_, rfl⟩, hE2, hE3, hE4.mono (by decide) (by decide)⟩
    · exact retN X49 hx (t := .boolean) hret (by simp) (hb hby at_282) hr
    · skip
      exact ⟨rfl, N49⟩
  · skip
    by_cases hqT : la = own_LT
    · skip
      obtain ⟨_, _, ⟨T85, L85, k85, n85⟩, -, X85, ⟨Lc85, hQ85, l85, y85, z85⟩, st85⟩ := Jvm.LawKit.callS X0 hx (y := (⟨"com/example/leanweave/leanweave/QosMeasure", "ofColumn", "(Ljava/lang/String;)Ljava/util/Optional;"⟩ : MethodName)) hown (mvT hZ (wd hw 73 rfl)) (mvT hZ (wd hw 74 rfl)) (mvT hZ (wd hw 75 rfl)) (mvT hZ (wd hw 76 rfl)) (by decide) (backOf (W := 0) (rm15 l Z a0 hw [] xs u_EMPTY u__VALUES cl_u__VALUES u_RESPONSE_TIME u_THROUGHPUT u_COST u_RESPONSE_TIME_column u_RESPONSE_TIME_column_value cl_u_RESPONSE_TIME_column_value u_THROUGHPUT_column u_THROUGHPUT_column_value cl_u_THROUGHPUT_column_value u_COST_column u_COST_column_value cl_u_COST_column_value cs ta kt nz la h0 n0 Z0 S_EMPTYk E_u_EMPTYk F_u_EMPTY_valuek S__VALUESk E_u__VALUESk S_RESPONSE_TIMEk E_u_RESPONSE_TIMEk S_THROUGHPUTk E_u_THROUGHPUTk S_COSTk E_u_COSTk F_u_RESPONSE_TIME_columnk E_u_RESPONSE_TIME_columnk F_u_RESPONSE_TIME_column_coderk F_u_RESPONSE_TIME_column_valuek F_u_THROUGHPUT_columnk E_u_THROUGHPUT_columnk F_u_THROUGHPUT_column_coderk F_u_THROUGHPUT_column_valuek F_u_COST_columnk E_u_COST_columnk F_u_COST_column_coderk F_u_COST_column_valuek V_u__VALUESk V_u_RESPONSE_TIME_column_valuek V_u_THROUGHPUT_column_valuek V_u_COST_column_valuek Sc Es Fs Fz Vs hcs hnz hb_la hl_la hqR hqT) hZ (wd hw 76 rfl) (wd hw 75 rfl) (by decide) (by decide)) (g := (mkF m 244 #[.val (.int p0_0), .val (.int p0_1), .val (.int p0_2), .val (.int p0_3), .val (.int p0_4), .val (.int p0_5), .val (.int zm), .val (.int zk), .val (.ref xs), .val (.ref y9), sl10, sl11, sl12] [(.ref xs)])) rfl (by rw [hml]; rfl) (argsL := [(.ref xs)]) (rest := []) (lenOf pd_10 rfl) rfl (by show 2 * 0 + _ ≤ _; exact Nat.le_of_eq rfl) (hb hby at_244) (fun _ _ => ⟨rfl, e0, (by decide : 12 + 2 ≤ _), (by decide : 300 + 4 ≤ _)⟩)
      dsimp only [Pt.U, Pt.locs, Pt.cells, Pt.slots] at X85 l85 y85 z85 st85 hQ85
      rw [l85, y85, z85] at X85
      obtain ⟨ro_85, rfl, N85q, Kc85, ggro_85, szro_85, G85_0, G85_1⟩ := hQ85
      have ne86 : xs ≠ ro_85 := Nat.ne_of_lt (Nat.lt_of_lt_of_le Es.lt szro_85)
      have ne87 : ta ≠ ro_85 := Nat.ne_of_lt (Nat.lt_of_lt_of_le Vs.lt szro_85)
      have ne88 : u_EMPTY ≠ ro_85 := Nat.ne_of_lt (Nat.lt_of_lt_of_le E_u_EMPTYk.lt szro_85)
      have ne89 : u__VALUES ≠ ro_85 := Nat.ne_of_lt (Nat.lt_of_lt_of_le E_u__VALUESk.lt szro_85)
      have ne90 : u_RESPONSE_TIME ≠ ro_85 := Nat.ne_of_lt (Nat.lt_of_lt_of_le E_u_RESPONSE_TIMEk.lt szro_85)
      have ne91 : u_THROUGHPUT ≠ ro_85 := Nat.ne_of_lt (Nat.lt_of_lt_of_le E_u_THROUGHPUTk.lt szro_85)
      have ne92 : u_COST ≠ ro_85 := Nat.ne_of_lt (Nat.lt_of_lt_of_le E_u_COSTk.lt szro_85)
      have ne93 : u_RESPONSE_TIME_column ≠ ro_85 := Nat.ne_of_lt (Nat.lt_of_lt_of_le E_u_RESPONSE_TIME_columnk.lt szro_85)
      have ne94 : u_THROUGHPUT_column ≠ ro_85 := Nat.ne_of_lt (Nat.lt_of_lt_of_le E_u_THROUGHPUT_columnk.lt szro_85)
      have ne95 : u_COST_column ≠ ro_85 := Nat.ne_of_lt (Nat.lt_of_lt_of_le E_u_COST_columnk.lt szro_85)
      have ne96 : u_RESPONSE_TIME_column_value ≠ ro_85 := Nat.ne_of_lt (Nat.lt_of_lt_of_le V_u_RESPONSE_TIME_column_valuek.lt szro_85)
      have ne97 : u_THROUGHPUT_column_value ≠ ro_85 := Nat.ne_of_lt (Nat.lt_of_lt_of_le V_u_THROUGHPUT_column_valuek.lt szro_85)
      have ne98 : u_COST_column_value ≠ ro_85 := Nat.ne_of_lt (Nat.lt_of_lt_of_le V_u_COST_column_valuek.lt szro_85)
      have Zs85 : n0 ≤ T85.heap.size := Nat.le_trans Z0 Kc85.1
      have hCR := hCR.trans (CHr.keep Kc85 sf0 hCR.1)
      have hk := Nat.le_trans hk Kc85.1
      have F99 := own_stakeep Sc Kc85 all0
      have F100 := Es.keep Kc85
      have F101 := Fs.keep Kc85 nin0
      have F102 := Fz.keep Kc85 nin0
      have F103 := Vs.keep Kc85 nin0
      have F104 := own_stakeep S_EMPTYk Kc85 all0
      have F105 := E_u_EMPTYk.keep Kc85
      have F106 := F_u_EMPTY_valuek.keep Kc85 nin0
      have F107 := own_stakeep S__VALUESk Kc85 all0
      have F108 := E_u__VALUESk.keep Kc85
      have F109 := own_stakeep S_RESPONSE_TIMEk Kc85 all0
      have F110 := E_u_RESPONSE_TIMEk.keep Kc85
      have F111 := own_stakeep S_THROUGHPUTk Kc85 all0
      have F112 := E_u_THROUGHPUTk.keep Kc85
      have F113 := own_stakeep S_COSTk Kc85 all0
      have F114 := E_u_COSTk.keep Kc85
      have F115 := F_u_RESPONSE_TIME_columnk.keep Kc85 nin0
      have F116 := E_u_RESPONSE_TIME_columnk.keep Kc85
      have F117 := F_u_RESPONSE_TIME_column_coderk.keep Kc85 nin0
      have F118 := F_u_RESPONSE_TIME_column_valuek.keep Kc85 nin0
      have F119 := F_u_THROUGHPUT_columnk.keep Kc85 nin0
      have F120 := E_u_THROUGHPUT_columnk.keep Kc85
      have F121 := F_u_THROUGHPUT_column_coderk.keep Kc85 nin0
      have F122 := F_u_THROUGHPUT_column_valuek.keep Kc85 nin0
      have F123 := F_u_COST_columnk.keep Kc85 nin0
      have F124 := E_u_COST_columnk.keep Kc85
      have F125 := F_u_COST_column_coderk.keep Kc85 nin0
      have F126 := F_u_COST_column_valuek.keep Kc85 nin0
      have F127 := V_u__VALUESk.keep Kc85 nin0
      have F128 := V_u_RESPONSE_TIME_column_valuek.keep Kc85 nin0
      have F129 := V_u_THROUGHPUT_column_valuek.keep Kc85 nin0
      have F130 := V_u_COST_column_valuek.keep Kc85 nin0
      have N85 := Fr.app N0 N85q
      obtain ⟨cq131, kq131, q131a, q131b, q131c⟩ := isOf hZ rfl G85_0
      obtain ⟨_, _, ⟨T131, L131, k131, n131⟩, -, X131, ⟨Lc131, hQ131, l131, y131, z131⟩, st131⟩ := X85.virtualBack hx (y := (⟨"java/util/Optional", "orElse", "(Ljava/lang/Object;)Ljava/lang/Object;"⟩ : MethodName)) (z := (⟨"java/util/Optional", "orElse", "(Ljava/lang/Object;)Ljava/lang/Object;"⟩ : MethodName)) hown (mvT hZ (wd hw 111 rfl)) (mvT hZ (wd hw 112 rfl)) (notFace_of_selects (args := #[]) (mvT hZ (wd hw 114 rfl))) (mvT hZ (wd hw 114 rfl)) (mvT hZ (wd hw 113 rfl)) (by decide) (backOf (W := 0) (rm12 l Z a0 hw [] ro_85 u_THROUGHPUT T85.heap n0 Zs85 G85_1) hZ (wd hw 115 rfl) (wd hw 108 rfl) (by decide) (by decide)) q131a q131c (g := (mkF m 259 #[.val (.int p0_0), .val (.int p0_1), .val (.int p0_2), .val (.int p0_3), .val (.int p0_4), .val (.int p0_5), .val (.int zm), .val (.int zk), .val (.ref xs), .val (.ref ro_85), sl10, sl11, sl12] [.null, (.ref ro_85)])) rfl (by rw [hml]; rfl) (Steps.refl _) (argsL := [.null]) (rest := []) (lenOf pd_4 rfl) rfl (by show 2 * 0 + _ ≤ _; exact Nat.le_of_eq rfl) (hb hby at_259) (fun _ _ => ⟨rfl, rfl, (by decide : 14 + 0 ≤ _), (by decide : 304 + 0 ≤ _)⟩)
      dsimp only [Pt.U, Pt.locs, Pt.cells, Pt.slots] at X131 l131 y131 z131 st131 hQ131
      rw [l131, y131, z131] at X131
      obtain ⟨rfl, N131q, eh131⟩ := hQ131
      have N131 := Fr.app N85 N131q
      obtain ⟨T132, X132, e132, st132⟩ := castY X131 hx hZ hown (wd hw 138 rfl) eh131 (Ins.self F112) (g := (mkF m 262 #[.val (.int p0_0), .val (.int p0_1), .val (.int p0_2), .val (.int p0_3), .val (.int p0_4), .val (.int p0_5), .val (.int zm), .val (.int zk), .val (.ref xs), .val (.ref ro_85), sl10, sl11, sl12] [(.ref u_THROUGHPUT)])) rfl rfl (hb hby at_262)
      obtain ⟨_, _, ⟨T133, L133, k133, n133⟩, -, X133, hS2, hg2, ⟨Lc133, hQ133, l133, y133, z133, hC133⟩, st133⟩ := callSS X132 hx (y := (⟨"com/example/leanweave/leanweave/QosMeasureOfColumnPinLaw", "ref", "(Ljava/lang/String;)Lcom/example/leanweave/leanweave/QosMeasure;"⟩ : MethodName)) hown (mvT hZ (wd hw 118 rfl)) (mvT hZ (wd hw 119 rfl)) (mvT hZ (wd hw 25 rfl)) (mvT hZ (wd hw 120 rfl)) (by decide) (backOfSH (W := 1) (rm20 l Z a0 hw [] hEL wS xs u_RESPONSE_TIME u_THROUGHPUT u_COST cs ta kt nz la T85.heap n0 Zs85 F109 F111 F113 F99 F100 F101 F102 F103 hcs hnz hb_la hl_la hqR hqT) hZ (wd hw 120 rfl) (wd hw 25 rfl) (by decide) (by decide) hEL hCR.1) (g := (mkF m 271 #[.val (.int p0_0), .val (.int p0_1), .val (.int p0_2), .val (.int p0_3), .val (.int p0_4), .val (.int p0_5), .val (.int zm), .val (.int zk), .val (.ref xs), .val (.ref ro_85), .val (.ref u_THROUGHPUT), sl11, sl12] [(.ref xs), (.ref u_THROUGHPUT)])) rfl (by rw [hml]; rfl) (argsL := [(.ref xs)]) (rest := [(.ref u_THROUGHPUT)]) (lenOf pd_11 rfl) rfl (by show 2 * 0 + _ ≤ _; exact Nat.le_of_eq rfl) (hb hby at_271) (fun _ _ => ⟨rfl, e132, (by decide : 14 + 4 ≤ _), (by decide : 304 + 136 ≤ _)⟩)
      dsimp only [Pt.U, Pt.locs, Pt.cells, Pt.slots] at X133 hS2 hg2 hC133 l133 y133 z133 st133 hQ133
      rw [l133, y133, z133] at X133
      obtain ⟨X133, hS, hZ, hown⟩ := rebS hS (by rw [e132]; exact hk) X133 hS2 hg2 hZ hown
      have hk := Nat.le_refl T133.heap.size
      have hCR := hCR.trans hC133
      obtain ⟨rfl, N133q, Kc133⟩ := hQ133
      have Zs133 : n0 ≤ T133.heap.size := Nat.le_trans Zs85 Kc133.1
      have F134 := own_stakeep F99 Kc133 all0
      have F135 := F100.keep Kc133
      have F136 := F101.keep Kc133 nin0
      have F137 := F102.keep Kc133 nin0
      have F138 := F103.keep Kc133 nin0
      have F139 := own_stakeep F104 Kc133 all0
      have F140 := F105.keep Kc133
      have F141 := F106.keep Kc133 nin0
      have F142 := own_stakeep F107 Kc133 all0
      have F143 := F108.keep Kc133
      have F144 := own_stakeep F109 Kc133 all0
      have F145 := F110.keep Kc133
      have F146 := own_stakeep F111 Kc133 all0
      have F147 := F112.keep Kc133
      have F148 := own_stakeep F113 Kc133 all0
      have F149 := F114.keep Kc133
      have F150 := F115.keep Kc133 nin0
      have F151 := F116.keep Kc133
      have F152 := F117.keep Kc133 nin0
      have F153 := F118.keep Kc133 nin0
      have F154 := F119.keep Kc133 nin0
      have F155 := F120.keep Kc133
      have F156 := F121.keep Kc133 nin0
      have F157 := F122.keep Kc133 nin0
      have F158 := F123.keep Kc133 nin0
      have F159 := F124.keep Kc133
      have F160 := F125.keep Kc133 nin0
      have F161 := F126.keep Kc133 nin0
      have F162 := F127.keep Kc133 nin0
      have F163 := F128.keep Kc133 nin0
      have F164 := F129.keep Kc133 nin0
      have F165 := F130.keep Kc133 nin0
      have F166 := G85_0.keep Kc133
      have F167 := G85_1.keep Kc133 nin0
      have N133 := Fr.app N131 N133q
      have k168 : ∀ t, Steps p.tables e below (T133.setTop (mkF m 282 #[.val (.int p0_0), .val (.int p0_1), .val (.int p0_2), .val (.int p0_3), .val (.int p0_4), .val (.int p0_5), .val (.int zm), .val (.int zk), .val (.ref xs), .val (.ref ro_85), .val (.ref u_THROUGHPUT), sl11, sl12] [(.int (1 : Int32))])) t → Steps p.tables e below (s₁.setTop (mkF m 242 #[.val (.int p0_0), .val (.int p0_1), .val (.int p0_2), .val (.int p0_3), .val (.int p0_4), .val (.int p0_5), .val (.int zm), .val (.int zk), .val (.ref xs), .val (.ref y9), sl10, sl11, sl12] [])) t := by
        intro t k
        refine pre0 t ?_
        refine XS.aload X0.here hx rfl (hb hby at_242) rfl rfl ?_
        refine st85 _ ?_
        refine XS.astore X85.here hx rfl (hb hby at_247) rfl rfl (l' := #[.val (.int p0_0), .val (.int p0_1), .val (.int p0_2), .val (.int p0_3), .val (.int p0_4), .val (.int p0_5), .val (.int zm), .val (.int zk), .val (.ref xs), .val (.ref ro_85), sl10, sl11, sl12]) rfl ?_
        refine XS.aload X85.here hx rfl (hb hby at_249) rfl rfl ?_
        refine XS.ifnonnullYes X85.here hx rfl (pc0 := 251) (pc' := 256) rfl (hb hby at_251) rfl (by decide) (by decide) ?_
        refine XS.aload X85.here hx rfl (hb hby at_256) rfl rfl ?_
        refine XS.aconstNull X85.here hx rfl (hb hby at_258) ?_
        refine st131.trans ?_
        refine st132 _ ?_
        refine XS.astoreS X132.here hx rfl (hb hby at_265) rfl rfl rfl rfl h_sl10 ?_
        show Steps p.tables e below (T132.setTop (mkF m 267 #[.val (.int p0_0), .val (.int p0_1), .val (.int p0_2), .val (.int p0_3), .val (.int p0_4), .val (.int p0_5), .val (.int zm), .val (.int zk), .val (.ref xs), .val (.ref ro_85), .val (.ref u_THROUGHPUT), sl11, sl12] [])) _
        refine XS.aload X132.here hx rfl (hb hby at_267) rfl rfl ?_
        refine XS.aload X132.here hx rfl (hb hby at_269) rfl rfl ?_
        refine st133.trans ?_
        refine Jvm.RoadKit.acmp (g := (mkF m 274 #[.val (.int p0_0), .val (.int p0_1), .val (.int p0_2), .val (.int p0_3), .val (.int p0_4), .val (.int p0_5), .val (.int zm), .val (.int zk), .val (.ref xs), .val (.ref ro_85), .val (.ref u_THROUGHPUT), sl11, sl12] [(.ref u_THROUGHPUT), (.ref u_THROUGHPUT)])) X133 hx rfl rfl rfl (pc0 := 274) (pc' := 277) (same := true) rfl (hb hby at_274) rfl (decide_eq_true rfl) (by decide) (by decide) ?_
        refine XS.iconst X133.here hx rfl (hb hby at_277) ?_
        refine XS.goto X133.here hx rfl (pc0 := 278) (pc' := 282) rfl (hb hby at_278) (by decide) (by decide) ?_
        exact k
      obtain ⟨fs, hr, hrun, hended, hE1, hE2, hE3, hE4⟩ := X133.leaveW hS hk (v := some (.int (1 : Int32))) (fun h => by rw [hret] at h; cases h)
      have hCE := hCR.trans (CHv.at X133 hZ hEL hCR.1)
      refine ⟨_, _, k168 _ ?_, hrun, hended, _, _, rfl, ?_, (by show CHr Z consts_1 s.vm s.heap T133.vm T133.heap; rw [hh]; exact hCE), ⟨_, rfl⟩, hE2, hE3, hE4.mono (by decide) (by decide)⟩
      · exact retN X133 hx (t := .boolean) hret (by simp) (hb hby at_282) hr
      · skip
        exact ⟨rfl, N133⟩
    · skip
      by_cases hqC : la = own_LC
      · skip
        obtain ⟨_, _, ⟨T169, L169, k169, n169⟩, -, X169, ⟨Lc169, hQ169, l169, y169, z169⟩, st169⟩ := Jvm.LawKit.callS X0 hx (y := (⟨"com/example/leanweave/leanweave/QosMeasure", "ofColumn", "(Ljava/lang/String;)Ljava/util/Optional;"⟩ : MethodName)) hown (mvT hZ (wd hw 73 rfl)) (mvT hZ (wd hw 74 rfl)) (mvT hZ (wd hw 75 rfl)) (mvT hZ (wd hw 76 rfl)) (by decide) (backOf (W := 0) (rm16 l Z a0 hw [] xs u_EMPTY u__VALUES cl_u__VALUES u_RESPONSE_TIME u_THROUGHPUT u_COST u_RESPONSE_TIME_column u_RESPONSE_TIME_column_value cl_u_RESPONSE_TIME_column_value u_THROUGHPUT_column u_THROUGHPUT_column_value cl_u_THROUGHPUT_column_value u_COST_column u_COST_column_value cl_u_COST_column_value cs ta kt nz la h0 n0 Z0 S_EMPTYk E_u_EMPTYk F_u_EMPTY_valuek S__VALUESk E_u__VALUESk S_RESPONSE_TIMEk E_u_RESPONSE_TIMEk S_THROUGHPUTk E_u_THROUGHPUTk S_COSTk E_u_COSTk F_u_RESPONSE_TIME_columnk E_u_RESPONSE_TIME_columnk F_u_RESPONSE_TIME_column_coderk F_u_RESPONSE_TIME_column_valuek F_u_THROUGHPUT_columnk E_u_THROUGHPUT_columnk F_u_THROUGHPUT_column_coderk F_u_THROUGHPUT_column_valuek F_u_COST_columnk E_u_COST_columnk F_u_COST_column_coderk F_u_COST_column_valuek V_u__VALUESk V_u_RESPONSE_TIME_column_valuek V_u_THROUGHPUT_column_valuek V_u_COST_column_valuek Sc Es Fs Fz Vs hcs hnz hb_la hl_la hqR hqT hqC) hZ (wd hw 76 rfl) (wd hw 75 rfl) (by decide) (by decide)) (g := (mkF m 244 #[.val (.int p0_0), .val (.int p0_1), .val (.int p0_2), .val (.int p0_3), .val (.int p0_4), .val (.int p0_5), .val (.int zm), .val (.int zk), .val (.ref xs), .val (.ref y9), sl10, sl11, sl12] [(.ref xs)])) rfl (by rw [hml]; rfl) (argsL := [(.ref xs)]) (rest := []) (lenOf pd_10 rfl) rfl (by show 2 * 0 + _ ≤ _; exact Nat.le_of_eq rfl) (hb hby at_244) (fun _ _ => ⟨rfl, e0, (by decide : 12 + 2 ≤ _), (by decide : 300 + 4 ≤ _)⟩)
        dsimp only [Pt.U, Pt.locs, Pt.cells, Pt.slots] at X169 l169 y169 z169 st169 hQ169
        rw [l169, y169, z169] at X169
        obtain ⟨ro_169, rfl, N169q, Kc169, ggro_169, szro_169, G169_0, G169_1⟩ := hQ169
        have ne170 : xs ≠ ro_169 := Nat.ne_of_lt (Nat.lt_of_lt_of_le Es.lt szro_169)
        have ne171 : ta ≠ ro_169 := Nat.ne_of_lt (Nat.lt_of_lt_of_le Vs.lt szro_169)
        have ne172 : u_EMPTY ≠ ro_169 := Nat.ne_of_lt (Nat.lt_of_lt_of_le E_u_EMPTYk.lt szro_169)
        have ne173 : u__VALUES ≠ ro_169 := Nat.ne_of_lt (Nat.lt_of_lt_of_le E_u__VALUESk.lt szro_169)
        have ne174 : u_RESPONSE_TIME ≠ ro_169 := Nat.ne_of_lt (Nat.lt_of_lt_of_le E_u_RESPONSE_TIMEk.lt szro_169)
        have ne175 : u_THROUGHPUT ≠ ro_169 := Nat.ne_of_lt (Nat.lt_of_lt_of_le E_u_THROUGHPUTk.lt szro_169)
        have ne176 : u_COST ≠ ro_169 := Nat.ne_of_lt (Nat.lt_of_lt_of_le E_u_COSTk.lt szro_169)
        have ne177 : u_RESPONSE_TIME_column ≠ ro_169 := Nat.ne_of_lt (Nat.lt_of_lt_of_le E_u_RESPONSE_TIME_columnk.lt szro_169)
        have ne178 : u_THROUGHPUT_column ≠ ro_169 := Nat.ne_of_lt (Nat.lt_of_lt_of_le E_u_THROUGHPUT_columnk.lt szro_169)
        have ne179 : u_COST_column ≠ ro_169 := Nat.ne_of_lt (Nat.lt_of_lt_of_le E_u_COST_columnk.lt szro_169)
        have ne180 : u_RESPONSE_TIME_column_value ≠ ro_169 := Nat.ne_of_lt (Nat.lt_of_lt_of_le V_u_RESPONSE_TIME_column_valuek.lt szro_169)
        have ne181 : u_THROUGHPUT_column_value ≠ ro_169 := Nat.ne_of_lt (Nat.lt_of_lt_of_le V_u_THROUGHPUT_column_valuek.lt szro_169)
        have ne182 : u_COST_column_value ≠ ro_169 := Nat.ne_of_lt (Nat.lt_of_lt_of_le V_u_COST_column_valuek.lt szro_169)
        have Zs169 : n0 ≤ T169.heap.size := Nat.le_trans Z0 Kc169.1
        have hCR := hCR.trans (CHr.keep Kc169 sf0 hCR.1)
        have hk := Nat.le_trans hk Kc169.1
        have F183 := own_stakeep Sc Kc169 all0
        have F184 := Es.keep Kc169
        have F185 := Fs.keep Kc169 nin0
        have F186 := Fz.keep Kc169 nin0
        have F187 := Vs.keep Kc169 nin0
        have F188 := own_stakeep S_EMPTYk Kc169 all0
        have F189 := E_u_EMPTYk.keep Kc169
        have F190 := F_u_EMPTY_valuek.keep Kc169 nin0
        have F191 := own_stakeep S__VALUESk Kc169 all0
        have F192 := E_u__VALUESk.keep Kc169
        have F193 := own_stakeep S_RESPONSE_TIMEk Kc169 all0
        have F194 := E_u_RESPONSE_TIMEk.keep Kc169
        have F195 := own_stakeep S_THROUGHPUTk Kc169 all0
        have F196 := E_u_THROUGHPUTk.keep Kc169
        have F197 := own_stakeep S_COSTk Kc169 all0
        have F198 := E_u_COSTk.keep Kc169
        have F199 := F_u_RESPONSE_TIME_columnk.keep Kc169 nin0
        have F200 := E_u_RESPONSE_TIME_columnk.keep Kc169
        have F201 := F_u_RESPONSE_TIME_column_coderk.keep Kc169 nin0
        have F202 := F_u_RESPONSE_TIME_column_valuek.keep Kc169 nin0
        have F203 := F_u_THROUGHPUT_columnk.keep Kc169 nin0
        have F204 := E_u_THROUGHPUT_columnk.keep Kc169
        have F205 := F_u_THROUGHPUT_column_coderk.keep Kc169 nin0
        have F206 := F_u_THROUGHPUT_column_valuek.keep Kc169 nin0
        have F207 := F_u_COST_columnk.keep Kc169 nin0
        have F208 := E_u_COST_columnk.keep Kc169
        have F209 := F_u_COST_column_coderk.keep Kc169 nin0
        have F210 := F_u_COST_column_valuek.keep Kc169 nin0
        have F211 := V_u__VALUESk.keep Kc169 nin0
        have F212 := V_u_RESPONSE_TIME_column_valuek.keep Kc169 nin0
        have F213 := V_u_THROUGHPUT_column_valuek.keep Kc169 nin0
        have F214 := V_u_COST_column_valuek.keep Kc169 nin0
        have N169 := Fr.app N0 N169q
        obtain ⟨cq215, kq215, q215a, q215b, q215c⟩ := isOf hZ rfl G169_0
        obtain ⟨_, _, ⟨T215, L215, k215, n215⟩, -, X215, ⟨Lc215, hQ215, l215, y215, z215⟩, st215⟩ := X169.virtualBack hx (y := (⟨"java/util/Optional", "orElse", "(Ljava/lang/Object;)Ljava/lang/Object;"⟩ : MethodName)) (z := (⟨"java/util/Optional", "orElse", "(Ljava/lang/Object;)Ljava/lang/Object;"⟩ : MethodName)) hown (mvT hZ (wd hw 111 rfl)) (mvT hZ (wd hw 112 rfl)) (notFace_of_selects (args := #[]) (mvT hZ (wd hw 114 rfl))) (mvT hZ (wd hw 114 rfl)) (mvT hZ (wd hw 113 rfl)) (by decide) (backOf (W := 0) (rm12 l Z a0 hw [] ro_169 u_COST T169.heap n0 Zs169 G169_1) hZ (wd hw 115 rfl) (wd hw 108 rfl) (by decide) (by decide)) q215a q215c (g := (mkF m 259 #[.val (.int p0_0), .val (.int p0_1), .val (.int p0_2), .val (.int p0_3), .val (.int p0_4), .val (.int p0_5), .val (.int zm), .val (.int zk), .val (.ref xs), .val (.ref ro_169), sl10, sl11, sl12] [.null, (.ref ro_169)])) rfl (by rw [hml]; rfl) (Steps.refl _) (argsL := [.null]) (rest := []) (lenOf pd_4 rfl) rfl (by show 2 * 0 + _ ≤ _; exact Nat.le_of_eq rfl) (hb hby at_259) (fun _ _ => ⟨rfl, rfl, (by decide : 14 + 0 ≤ _), (by decide : 304 + 0 ≤ _)⟩)
        dsimp only [Pt.U, Pt.locs, Pt.cells, Pt.slots] at X215 l215 y215 z215 st215 hQ215
        rw [l215, y215, z215] at X215
        obtain ⟨rfl, N215q, eh215⟩ := hQ215
        have N215 := Fr.app N169 N215q
        obtain ⟨T216, X216, e216, st216⟩ := castY X215 hx hZ hown (wd hw 138 rfl) eh215 (Ins.self F198) (g := (mkF m 262 #[.val (.int p0_0), .val (.int p0_1), .val (.int p0_2), .val (.int p0_3), .val (.int p0_4), .val (.int p0_5), .val (.int zm), .val (.int zk), .val (.ref xs), .val (.ref ro_169), sl10, sl11, sl12] [(.ref u_COST)])) rfl rfl (hb hby at_262)
        obtain ⟨_, _, ⟨T217, L217, k217, n217⟩, -, X217, hS2, hg2, ⟨Lc217, hQ217, l217, y217, z217, hC217⟩, st217⟩ := callSS X216 hx (y := (⟨"com/example/leanweave/leanweave/QosMeasureOfColumnPinLaw", "ref", "(Ljava/lang/String;)Lcom/example/leanweave/leanweave/QosMeasure;"⟩ : MethodName)) hown (mvT hZ (wd hw 118 rfl)) (mvT hZ (wd hw 119 rfl)) (mvT hZ (wd hw 25 rfl)) (mvT hZ (wd hw 120 rfl)) (by decide) (backOfSH (W := 1) (rm21 l Z a0 hw [] hEL wS xs u_RESPONSE_TIME u_THROUGHPUT u_COST cs ta kt nz la T169.heap n0 Zs169 F193 F195 F197 F183 F184 F185 F186 F187 hcs hnz hb_la hl_la hqR hqT hqC) hZ (wd hw 120 rfl) (wd hw 25 rfl) (by decide) (by decide) hEL hCR.1) (g := (mkF m 271 #[.val (.int p0_0), .val (.int p0_1), .val (.int p0_2), .val (.int p0_3), .val (.int p0_4), .val (.int p0_5), .val (.int zm), .val (.int zk), .val (.ref xs), .val (.ref ro_169), .val (.ref u_COST), sl11, sl12] [(.ref xs), (.ref u_COST)])) rfl (by rw [hml]; rfl) (argsL := [(.ref xs)]) (rest := [(.ref u_COST)]) (lenOf pd_11 rfl) rfl (by show 2 * 0 + _ ≤ _; exact Nat.le_of_eq rfl) (hb hby at_271) (fun _ _ => ⟨rfl, e216, (by decide : 14 + 6 ≤ _), (by decide : 304 + 156 ≤ _)⟩)
        dsimp only [Pt.U, Pt.locs, Pt.cells, Pt.slots] at X217 hS2 hg2 hC217 l217 y217 z217 st217 hQ217
        rw [l217, y217, z217] at X217
        obtain ⟨X217, hS, hZ, hown⟩ := rebS hS (by rw [e216]; exact hk) X217 hS2 hg2 hZ hown
        have hk := Nat.le_refl T217.heap.size
        have hCR := hCR.trans hC217
        obtain ⟨rfl, N217q, Kc217⟩ := hQ217
        have Zs217 : n0 ≤ T217.heap.size := Nat.le_trans Zs169 Kc217.1
        have F218 := own_stakeep F183 Kc217 all0
        have F219 := F184.keep Kc217
        have F220 := F185.keep Kc217 nin0
        have F221 := F186.keep Kc217 nin0
        have F222 := F187.keep Kc217 nin0
        have F223 := own_stakeep F188 Kc217 all0
        have F224 := F189.keep Kc217
        have F225 := F190.keep Kc217 nin0
        have F226 := own_stakeep F191 Kc217 all0
        have F227 := F192.keep Kc217
        have F228 := own_stakeep F193 Kc217 all0
        have F229 := F194.keep Kc217
        have F230 := own_stakeep F195 Kc217 all0
        have F231 := F196.keep Kc217
        have F232 := own_stakeep F197 Kc217 all0
        have F233 := F198.keep Kc217
        have F234 := F199.keep Kc217 nin0
        have F235 := F200.keep Kc217
        have F236 := F201.keep Kc217 nin0
        have F237 := F202.keep Kc217 nin0
        have F238 := F203.keep Kc217 nin0
        have F239 := F204.keep Kc217
        have F240 := F205.keep Kc217 nin0
        have F241 := F206.keep Kc217 nin0
        have F242 := F207.keep Kc217 nin0
        have F243 := F208.keep Kc217
        have F244 := F209.keep Kc217 nin0
        have F245 := F210.keep Kc217 nin0
        have F246 := F211.keep Kc217 nin0
        have F247 := F212.keep Kc217 nin0
        have F248 := F213.keep Kc217 nin0
        have F249 := F214.keep Kc217 nin0
        have F250 := G169_0.keep Kc217
        have F251 := G169_1.keep Kc217 nin0
        have N217 := Fr.app N215 N217q
        have k252 : ∀ t, Steps p.tables e below (T217.setTop (mkF m 282 #[.val (.int p0_0), .val (.int p0_1), .val (.int p0_2), .val (.int p0_3), .val (.int p0_4), .val (.int p0_5), .val (.int zm), .val (.int zk), .val (.ref xs), .val (.ref ro_169), .val (.ref u_COST), sl11, sl12] [(.int (1 : Int32))])) t → Steps p.tables e below (s₁.setTop (mkF m 242 #[.val (.int p0_0), .val (.int p0_1), .val (.int p0_2), .val (.int p0_3), .val (.int p0_4), .val (.int p0_5), .val (.int zm), .val (.int zk), .val (.ref xs), .val (.ref y9), sl10, sl11, sl12] [])) t := by
          intro t k
          refine pre0 t ?_
          refine XS.aload X0.here hx rfl (hb hby at_242) rfl rfl ?_
          refine st169 _ ?_
          refine XS.astore X169.here hx rfl (hb hby at_247) rfl rfl (l' := #[.val (.int p0_0), .val (.int p0_1), .val (.int p0_2), .val (.int p0_3), .val (.int p0_4), .val (.int p0_5), .val (.int zm), .val (.int zk), .val (.ref xs), .val (.ref ro_169), sl10, sl11, sl12]) rfl ?_
          refine XS.aload X169.here hx rfl (hb hby at_249) rfl rfl ?_
          refine XS.ifnonnullYes X169.here hx rfl (pc0 := 251) (pc' := 256) rfl (hb hby at_251) rfl (by decide) (by decide) ?_
          refine XS.aload X169.here hx rfl (hb hby at_256) rfl rfl ?_
          refine XS.aconstNull X169.here hx rfl (hb hby at_258) ?_
          refine st215.trans ?_
          refine st216 _ ?_
          refine XS.astoreS X216.here hx rfl (hb hby at_265) rfl rfl rfl rfl h_sl10 ?_
          show Steps p.tables e below (T216.setTop (mkF m 267 #[.val (.int p0_0), .val (.int p0_1), .val (.int p0_2), .val (.int p0_3), .val (.int p0_4), .val (.int p0_5), .val (.int zm), .val (.int zk), .val (.ref xs), .val (.ref ro_169), .val (.ref u_COST), sl11, sl12] [])) _
          refine XS.aload X216.here hx rfl (hb hby at_267) rfl rfl ?_
          refine XS.aload X216.here hx rfl (hb hby at_269) rfl rfl ?_
          refine st217.trans ?_
          refine Jvm.RoadKit.acmp (g := (mkF m 274 #[.val (.int p0_0), .val (.int p0_1), .val (.int p0_2), .val (.int p0_3), .val (.int p0_4), .val (.int p0_5), .val (.int zm), .val (.int zk), .val (.ref xs), .val (.ref ro_169), .val (.ref u_COST), sl11, sl12] [(.ref u_COST), (.ref u_COST)])) X217 hx rfl rfl rfl (pc0 := 274) (pc' := 277) (same := true) rfl (hb hby at_274) rfl (decide_eq_true rfl) (by decide) (by decide) ?_
          refine XS.iconst X217.here hx rfl (hb hby at_277) ?_
          refine XS.goto X217.here hx rfl (pc0 := 278) (pc' := 282) rfl (hb hby at_278) (by decide) (by decide) ?_
          exact k
        obtain ⟨fs, hr, hrun, hended, hE1, hE2, hE3, hE4⟩ := X217.leaveW hS hk (v := some (.int (1 : Int32))) (fun h => by rw [hret] at h; cases h)
        have hCE := hCR.trans (CHv.at X217 hZ hEL hCR.1)
        refine ⟨_, _, k252 _ ?_, hrun, hended, _, _, rfl, ?_, (by show CHr Z consts_1 s.vm s.heap T217.vm T217.heap; rw [hh]; exact hCE), ⟨_, rfl⟩, hE2, hE3, hE4.mono (by decide) (by decide)⟩
        · exact retN X217 hx (t := .boolean) hret (by simp) (hb hby at_282) hr
        · skip
          exact ⟨rfl, N217⟩
      · skip
        obtain ⟨_, _, ⟨T253, L253, k253, n253⟩, -, X253, ⟨Lc253, hQ253, l253, y253, z253⟩, st253⟩ := Jvm.LawKit.callS X0 hx (y := (⟨"com/example/leanweave/leanweave/QosMeasure", "ofColumn", "(Ljava/lang/String;)Ljava/util/Optional;"⟩ : MethodName)) hown (mvT hZ (wd hw 73 rfl)) (mvT hZ (wd hw 74 rfl)) (mvT hZ (wd hw 75 rfl)) (mvT hZ (wd hw 76 rfl)) (by decide) (backOf (W := 0) (rm17 l Z a0 hw [] xs u_EMPTY u__VALUES cl_u__VALUES u_RESPONSE_TIME u_THROUGHPUT u_COST u_RESPONSE_TIME_column u_RESPONSE_TIME_column_value cl_u_RESPONSE_TIME_column_value u_THROUGHPUT_column u_THROUGHPUT_column_value cl_u_THROUGHPUT_column_value u_COST_column u_COST_column_value cl_u_COST_column_value cs ta kt nz la h0 n0 Z0 S_EMPTYk E_u_EMPTYk F_u_EMPTY_valuek S__VALUESk E_u__VALUESk S_RESPONSE_TIMEk E_u_RESPONSE_TIMEk S_THROUGHPUTk E_u_THROUGHPUTk S_COSTk E_u_COSTk F_u_RESPONSE_TIME_columnk E_u_RESPONSE_TIME_columnk F_u_RESPONSE_TIME_column_coderk F_u_RESPONSE_TIME_column_valuek F_u_THROUGHPUT_columnk E_u_THROUGHPUT_columnk F_u_THROUGHPUT_column_coderk F_u_THROUGHPUT_column_valuek F_u_COST_columnk E_u_COST_columnk F_u_COST_column_coderk F_u_COST_column_valuek V_u__VALUESk V_u_RESPONSE_TIME_column_valuek V_u_THROUGHPUT_column_valuek V_u_COST_column_valuek Sc Es Fs Fz Vs hcs hnz hb_la hl_la hqR hqT hqC) hZ (wd hw 76 rfl) (wd hw 75 rfl) (by decide) (by decide)) (g := (mkF m 244 #[.val (.int p0_0), .val (.int p0_1), .val (.int p0_2), .val (.int p0_3), .val (.int p0_4), .val (.int p0_5), .val (.int zm), .val (.int zk), .val (.ref xs), .val (.ref y9), sl10, sl11, sl12] [(.ref xs)])) rfl (by rw [hml]; rfl) (argsL := [(.ref xs)]) (rest := []) (lenOf pd_10 rfl) rfl (by show 2 * 0 + _ ≤ _; exact Nat.le_of_eq rfl) (hb hby at_244) (fun _ _ => ⟨rfl, e0, (by decide : 12 + 1 ≤ _), (by decide : 300 + 3 ≤ _)⟩)
        dsimp only [Pt.U, Pt.locs, Pt.cells, Pt.slots] at X253 l253 y253 z253 st253 hQ253
        rw [l253, y253, z253] at X253
        obtain ⟨rfl, N253q, Kc253⟩ := hQ253
        have Zs253 : n0 ≤ T253.heap.size := Nat.le_trans Z0 Kc253.1
        have hCR := hCR.trans (CHr.keep Kc253 sf0 hCR.1)
        have hk := Nat.le_trans hk Kc253.1
        have F254 := own_stakeep Sc Kc253 all0
        have F255 := Es.keep Kc253
        have F256 := Fs.keep Kc253 nin0
        have F257 := Fz.keep Kc253 nin0
        have F258 := Vs.keep Kc253 nin0
        have F259 := own_stakeep S_EMPTYk Kc253 all0
        have F260 := E_u_EMPTYk.keep Kc253
        have F261 := F_u_EMPTY_valuek.keep Kc253 nin0
        have F262 := own_stakeep S__VALUESk Kc253 all0
        have F263 := E_u__VALUESk.keep Kc253
        have F264 := own_stakeep S_RESPONSE_TIMEk Kc253 all0
        have F265 := E_u_RESPONSE_TIMEk.keep Kc253
        have F266 := own_stakeep S_THROUGHPUTk Kc253 all0
        have F267 := E_u_THROUGHPUTk.keep Kc253
        have F268 := own_stakeep S_COSTk Kc253 all0
        have F269 := E_u_COSTk.keep Kc253
        have F270 := F_u_RESPONSE_TIME_columnk.keep Kc253 nin0
        have F271 := E_u_RESPONSE_TIME_columnk.keep Kc253
        have F272 := F_u_RESPONSE_TIME_column_coderk.keep Kc253 nin0
        have F273 := F_u_RESPONSE_TIME_column_valuek.keep Kc253 nin0
        have F274 := F_u_THROUGHPUT_columnk.keep Kc253 nin0
        have F275 := E_u_THROUGHPUT_columnk.keep Kc253
        have F276 := F_u_THROUGHPUT_column_coderk.keep Kc253 nin0
        have F277 := F_u_THROUGHPUT_column_valuek.keep Kc253 nin0
        have F278 := F_u_COST_columnk.keep Kc253 nin0
        have F279 := E_u_COST_columnk.keep Kc253
        have F280 := F_u_COST_column_coderk.keep Kc253 nin0
        have F281 := F_u_COST_column_valuek.keep Kc253 nin0
        have F282 := V_u__VALUESk.keep Kc253 nin0
        have F283 := V_u_RESPONSE_TIME_column_valuek.keep Kc253 nin0
        have F284 := V_u_THROUGHPUT_column_valuek.keep Kc253 nin0
        have F285 := V_u_COST_column_valuek.keep Kc253 nin0
        have N253 := Fr.app N0 N253q
        obtain ⟨cq286, kq286, q286a, q286b, q286c⟩ := isOf hZ rfl F260
        obtain ⟨_, _, ⟨T286, L286, k286, n286⟩, -, X286, ⟨Lc286, hQ286, l286, y286, z286⟩, st286⟩ := X253.virtualBack hx (y := (⟨"java/util/Optional", "orElse", "(Ljava/lang/Object;)Ljava/lang/Object;"⟩ : MethodName)) (z := (⟨"java/util/Optional", "orElse", "(Ljava/lang/Object;)Ljava/lang/Object;"⟩ : MethodName)) hown (mvT hZ (wd hw 111 rfl)) (mvT hZ (wd hw 112 rfl)) (notFace_of_selects (args := #[]) (mvT hZ (wd hw 114 rfl))) (mvT hZ (wd hw 114 rfl)) (mvT hZ (wd hw 113 rfl)) (by decide) (backOf (W := 0) (rm11 l Z a0 hw [] u_EMPTY T253.heap n0 Zs253 F261) hZ (wd hw 115 rfl) (wd hw 108 rfl) (by decide) (by decide)) q286a q286c (g := (mkF m 259 #[.val (.int p0_0), .val (.int p0_1), .val (.int p0_2), .val (.int p0_3), .val (.int p0_4), .val (.int p0_5), .val (.int zm), .val (.int zk), .val (.ref xs), .val (.ref u_EMPTY), sl10, sl11, sl12] [.null, (.ref u_EMPTY)])) rfl (by rw [hml]; rfl) (Steps.refl _) (argsL := [.null]) (rest := []) (lenOf pd_4 rfl) rfl (by show 2 * 0 + _ ≤ _; exact Nat.le_of_eq rfl) (hb hby at_259) (fun _ _ => ⟨rfl, rfl, (by decide : 13 + 0 ≤ _), (by decide : 303 + 0 ≤ _)⟩)
        dsimp only [Pt.U, Pt.locs, Pt.cells, Pt.slots] at X286 l286 y286 z286 st286 hQ286
        rw [l286, y286, z286] at X286
        obtain ⟨rfl, N286q, eh286⟩ := hQ286
        have N286 := Fr.app N253 N286q
        obtain ⟨_, _, ⟨T287, L287, k287, n287⟩, -, X287, hS2, hg2, ⟨Lc287, hQ287, l287, y287, z287, hC287⟩, st287⟩ := callSS X286 hx (y := (⟨"com/example/leanweave/leanweave/QosMeasureOfColumnPinLaw", "ref", "(Ljava/lang/String;)Lcom/example/leanweave/leanweave/QosMeasure;"⟩ : MethodName)) hown (mvT hZ (wd hw 118 rfl)) (mvT hZ (wd hw 119 rfl)) (mvT hZ (wd hw 25 rfl)) (mvT hZ (wd hw 120 rfl)) (by decide) (backOfSH (W := 1) (rm22 l Z a0 hw [] hEL wS xs u_RESPONSE_TIME u_THROUGHPUT u_COST cs ta kt nz la T253.heap n0 Zs253 F264 F266 F268 F254 F255 F256 F257 F258 hcs hnz hb_la hl_la hqR hqT hqC) hZ (wd hw 120 rfl) (wd hw 25 rfl) (by decide) (by decide) hEL hCR.1) (g := (mkF m 271 #[.val (.int p0_0), .val (.int p0_1), .val (.int p0_2), .val (.int p0_3), .val (.int p0_4), .val (.int p0_5), .val (.int zm), .val (.int zk), .val (.ref xs), .val (.ref u_EMPTY), .val .null, sl11, sl12] [(.ref xs), .null])) rfl (by rw [hml]; rfl) (argsL := [(.ref xs)]) (rest := [.null]) (lenOf pd_11 rfl) rfl (by show 2 * 0 + _ ≤ _; exact Nat.le_of_eq rfl) (hb hby at_271) (fun _ _ => ⟨rfl, eh286, (by decide : 13 + 6 ≤ _), (by decide : 303 + 156 ≤ _)⟩)
        dsimp only [Pt.U, Pt.locs, Pt.cells, Pt.slots] at X287 hS2 hg2 hC287 l287 y287 z287 st287 hQ287
        rw [l287, y287, z287] at X287
        obtain ⟨X287, hS, hZ, hown⟩ := rebS hS (by rw [eh286]; exact hk) X287 hS2 hg2 hZ hown
        have hk := Nat.le_refl T287.heap.size
        have hCR := hCR.trans hC287
        obtain ⟨rfl, N287q, Kc287⟩ := hQ287
        have Zs287 : n0 ≤ T287.heap.size := Nat.le_trans Zs253 Kc287.1
        have F288 := own_stakeep F254 Kc287 all0
        have F289 := F255.keep Kc287
        have F290 := F256.keep Kc287 nin0
        have F291 := F257.keep Kc287 nin0
        have F292 := F258.keep Kc287 nin0
        have F293 := own_stakeep F259 Kc287 all0
        have F294 := F260.keep Kc287
        have F295 := F261.keep Kc287 nin0
        have F296 := own_stakeep F262 Kc287 all0
        have F297 := F263.keep Kc287
        have F298 := own_stakeep F264 Kc287 all0
        have F299 := F265.keep Kc287
        have F300 := own_stakeep F266 Kc287 all0
        have F301 := F267.keep Kc287
        have F302 := own_stakeep F268 Kc287 all0
        have F303 := F269.keep Kc287
        have F304 := F270.keep Kc287 nin0
        have F305 := F271.keep Kc287
        have F306 := F272.keep Kc287 nin0
        have F307 := F273.keep Kc287 nin0
        have F308 := F274.keep Kc287 nin0
        have F309 := F275.keep Kc287
        have F310 := F276.keep Kc287 nin0
        have F311 := F277.keep Kc287 nin0
        have F312 := F278.keep Kc287 nin0
        have F313 := F279.keep Kc287
        have F314 := F280.keep Kc287 nin0
        have F315 := F281.keep Kc287 nin0
        have F316 := F282.keep Kc287 nin0
        have F317 := F283.keep Kc287 nin0
        have F318 := F284.keep Kc287 nin0
        have F319 := F285.keep Kc287 nin0
        have N287 := Fr.app N286 N287q
        have k320 : ∀ t, Steps p.tables e below (T287.setTop (mkF m 282 #[.val (.int p0_0), .val (.int p0_1), .val (.int p0_2), .val (.int p0_3), .val (.int p0_4), .val (.int p0_5), .val (.int zm), .val (.int zk), .val (.ref xs), .val (.ref u_EMPTY), .val .null, sl11, sl12] [(.int (1 : Int32))])) t → Steps p.tables e below (s₁.setTop (mkF m 242 #[.val (.int p0_0), .val (.int p0_1), .val (.int p0_2), .val (.int p0_3), .val (.int p0_4), .val (.int p0_5), .val (.int zm), .val (.int zk), .val (.ref xs), .val (.ref y9), sl10, sl11, sl12] [])) t := by
          intro t k
          refine pre0 t ?_
          refine XS.aload X0.here hx rfl (hb hby at_242) rfl rfl ?_
          refine st253 _ ?_
          refine XS.astore X253.here hx rfl (hb hby at_247) rfl rfl (l' := #[.val (.int p0_0), .val (.int p0_1), .val (.int p0_2), .val (.int p0_3), .val (.int p0_4), .val (.int p0_5), .val (.int zm), .val (.int zk), .val (.ref xs), .val (.ref u_EMPTY), sl10, sl11, sl12]) rfl ?_
          refine XS.aload X253.here hx rfl (hb hby at_249) rfl rfl ?_
          refine XS.ifnonnullYes X253.here hx rfl (pc0 := 251) (pc' := 256) rfl (hb hby at_251) rfl (by decide) (by decide) ?_
          refine XS.aload X253.here hx rfl (hb hby at_256) rfl rfl ?_
          refine XS.aconstNull X253.here hx rfl (hb hby at_258) ?_
          refine st286.trans ?_
          refine X286.checkcastNull hx (g := (mkF m 262 #[.val (.int p0_0), .val (.int p0_1), .val (.int p0_2), .val (.int p0_3), .val (.int p0_4), .val (.int p0_5), .val (.int zm), .val (.int zk), .val (.ref xs), .val (.ref u_EMPTY), sl10, sl11, sl12] [.null])) rfl rfl (hb hby at_262) _ ?_
          refine XS.astoreS X286.here hx rfl (hb hby at_265) rfl rfl rfl rfl h_sl10 ?_
          show Steps p.tables e below (T286.setTop (mkF m 267 #[.val (.int p0_0), .val (.int p0_1), .val (.int p0_2), .val (.int p0_3), .val (.int p0_4), .val (.int p0_5), .val (.int zm), .val (.int zk), .val (.ref xs), .val (.ref u_EMPTY), .val .null, sl11, sl12] [])) _
          refine XS.aload X286.here hx rfl (hb hby at_267) rfl rfl ?_
          refine XS.aload X286.here hx rfl (hb hby at_269) rfl rfl ?_
          refine st287.trans ?_
          refine Jvm.RoadKit.acmp (g := (mkF m 274 #[.val (.int p0_0), .val (.int p0_1), .val (.int p0_2), .val (.int p0_3), .val (.int p0_4), .val (.int p0_5), .val (.int zm), .val (.int zk), .val (.ref xs), .val (.ref u_EMPTY), .val .null, sl11, sl12] [.null, .null])) X287 hx rfl rfl rfl (pc0 := 274) (pc' := 277) (same := true) rfl (hb hby at_274) rfl (decide_eq_true rfl) (by decide) (by decide) ?_
          refine XS.iconst X287.here hx rfl (hb hby at_277) ?_
          refine XS.goto X287.here hx rfl (pc0 := 278) (pc' := 282) rfl (hb hby at_278) (by decide) (by decide) ?_
          exact k
        obtain ⟨fs, hr, hrun, hended, hE1, hE2, hE3, hE4⟩ := X287.leaveW hS hk (v := some (.int (1 : Int32))) (fun h => by rw [hret] at h; cases h)
        have hCE := hCR.trans (CHv.at X287 hZ hEL hCR.1)
        refine ⟨_, _, k320 _ ?_, hrun, hended, _, _, rfl, ?_, (by show CHr Z consts_1 s.vm s.heap T287.vm T287.heap; rw [hh]; exact hCE), ⟨_, rfl⟩, hE2, hE3, hE4.mono (by decide) (by decide)⟩
        · exact retN X287 hx (t := .boolean) hret (by simp) (hb hby at_282) hr
        · skip
          exact ⟨rfl, N287⟩
set_option maxRecDepth 65536 in
set_option maxHeartbeats 40000000 in
theorem sgs0 {p : Program} {l : Launch} {e : Env} {s : State} {m : MethodId} {args : Array Value} {below : List Frame} {meth : Method} {c : Code} {s₁ : State} {locs : List Loc} {vm0 : Vm} {k0 : Nat} {hs0 : Heap} {Z : State} {a0 : Array Value} (hw : ∀ d ∈ tables_1, d.before a0 Z = true) (hEL : EW Z a0 consts_1) (wS : ∀ a ∈ Bundle.stringAtoms, a.before a0 Z = true) (hb0 : Heap) (p0_0 : Int32) (p0_1 : Int32) (p0_2 : Int32) (p0_3 : Int32) (p0_4 : Int32) (p0_5 : Int32) (zm : Int32) (zk : Int32) (sl11 : Slot) (sl12 : Slot) (y9 : Addr) (sl10 : Slot) (u_EMPTY : Addr) (u__VALUES : Addr) (cl_u__VALUES : Cell) (u_RESPONSE_TIME : Addr) (u_THROUGHPUT : Addr) (u_COST : Addr) (u_RESPONSE_TIME_column : Addr) (u_RESPONSE_TIME_column_value : Addr) (cl_u_RESPONSE_TIME_column_value : Cell) (u_THROUGHPUT_column : Addr) (u_THROUGHPUT_column_value : Addr) (cl_u_THROUGHPUT_column_value : Cell) (u_COST_column : Addr) (u_COST_column_value : Addr) (cl_u_COST_column_value : Cell) (cs : Int32) (h0 : Heap) (n0 : Nat) (Z0 : n0 ≤ h0.size) (S_EMPTY : Sta Z hb0 "java/util/Optional" "EMPTY" "Ljava/util/Optional;" (.ref u_EMPTY)) (E_u_EMPTY : Exa Z hb0 u_EMPTY "java/util/Optional") (F_u_EMPTY_value : Fld Z hb0 u_EMPTY "java/util/Optional" "value" "Ljava/lang/Object;" .null) (S__VALUES : Sta Z hb0 "com/example/leanweave/leanweave/QosMeasure" "$VALUES" "[Lcom/example/leanweave/leanweave/QosMeasure;" (.ref u__VALUES)) (E_u__VALUES : Exa Z hb0 u__VALUES "[Lcom/example/leanweave/leanweave/QosMeasure;") (S_RESPONSE_TIME : Sta Z hb0 "com/example/leanweave/leanweave/QosMeasure" "RESPONSE_TIME" "Lcom/example/leanweave/leanweave/QosMeasure;" (.ref u_RESPONSE_TIME)) (E_u_RESPONSE_TIME : Exa Z hb0 u_RESPONSE_TIME "com/example/leanweave/leanweave/QosMeasure") (S_THROUGHPUT : Sta Z hb0 "com/example/leanweave/leanweave/QosMeasure" "THROUGHPUT" "Lcom/example/leanweave/leanweave/QosMeasure;" (.ref u_THROUGHPUT)) (E_u_THROUGHPUT : Exa Z hb0 u_THROUGHPUT "com/example/leanweave/leanweave/QosMeasure") (S_COST : Sta Z hb0 "com/example/leanweave/leanweave/QosMeasure" "COST" "Lcom/example/leanweave/leanweave/QosMeasure;" (.ref u_COST)) (E_u_COST : Exa Z hb0 u_COST "com/example/leanweave/leanweave/QosMeasure") (F_u_RESPONSE_TIME_column : Fld Z hb0 u_RESPONSE_TIME "com/example/leanweave/leanweave/QosMeasure" "column" "Ljava/lang/String;" (.ref u_RESPONSE_TIME_column)) (E_u_RESPONSE_TIME_column : Exa Z hb0 u_RESPONSE_TIME_column "java/lang/String") (F_u_RESPONSE_TIME_column_coder : Fld Z hb0 u_RESPONSE_TIME_column "java/lang/String" "coder" "B" (.int (0 : Int32))) (F_u_RESPONSE_TIME_column_value : Fld Z hb0 u_RESPONSE_TIME_column "java/lang/String" "value" "[B" (.ref u_RESPONSE_TIME_column_value)) (F_u_THROUGHPUT_column : Fld Z hb0 u_THROUGHPUT "com/example/leanweave/leanweave/QosMeasure" "column" "Ljava/lang/String;" (.ref u_THROUGHPUT_column)) (E_u_THROUGHPUT_column : Exa Z hb0 u_THROUGHPUT_column "java/lang/String") (F_u_THROUGHPUT_column_coder : Fld Z hb0 u_THROUGHPUT_column "java/lang/String" "coder" "B" (.int (0 : Int32))) (F_u_THROUGHPUT_column_value : Fld Z hb0 u_THROUGHPUT_column "java/lang/String" "value" "[B" (.ref u_THROUGHPUT_column_value)) (F_u_COST_column : Fld Z hb0 u_COST "com/example/leanweave/leanweave/QosMeasure" "column" "Ljava/lang/String;" (.ref u_COST_column)) (E_u_COST_column : Exa Z hb0 u_COST_column "java/lang/String") (F_u_COST_column_coder : Fld Z hb0 u_COST_column "java/lang/String" "coder" "B" (.int (0 : Int32))) (F_u_COST_column_value : Fld Z hb0 u_COST_column "java/lang/String" "value" "[B" (.ref u_COST_column_value)) (V_u__VALUES : Arv Z hb0 u__VALUES cl_u__VALUES.cls (.object "com/example/leanweave/leanweave/QosMeasure") (3 : Int32) [(.ref u_RESPONSE_TIME), (.ref u_THROUGHPUT), (.ref u_COST)] .null) (V_u_RESPONSE_TIME_column_value : Arv Z hb0 u_RESPONSE_TIME_column_value cl_u_RESPONSE_TIME_column_value.cls .byte (16 : Int32) [(.int (114 : Int32)), (.int (101 : Int32)), (.int (115 : Int32)), (.int (112 : Int32)), (.int (111 : Int32)), (.int (110 : Int32)), (.int (115 : Int32)), (.int (101 : Int32)), (.int (95 : Int32)), (.int (116 : Int32)), (.int (105 : Int32)), (.int (109 : Int32)), (.int (101 : Int32)), (.int (95 : Int32)), (.int (109 : Int32)), (.int (115 : Int32))] (.int (0 : Int32))) (V_u_THROUGHPUT_column_value : Arv Z hb0 u_THROUGHPUT_column_value cl_u_THROUGHPUT_column_value.cls .byte (16 : Int32) [(.int (116 : Int32)), (.int (104 : Int32)), (.int (114 : Int32)), (.int (111 : Int32)), (.int (117 : Int32)), (.int (103 : Int32)), (.int (104 : Int32)), (.int (112 : Int32)), (.int (117 : Int32)), (.int (116 : Int32)), (.int (95 : Int32)), (.int (112 : Int32)), (.int (101 : Int32)), (.int (114 : Int32)), (.int (95 : Int32)), (.int (115 : Int32))] (.int (0 : Int32))) (V_u_COST_column_value : Arv Z hb0 u_COST_column_value cl_u_COST_column_value.cls .byte (4 : Int32) [(.int (99 : Int32)), (.int (111 : Int32)), (.int (115 : Int32)), (.int (116 : Int32))] (.int (0 : Int32))) (Kb : Keep hb0 h0 []) (Sc : Sta Z h0 "java/lang/String" "COMPACT_STRINGS" "Z" (.int cs)) (hcs : ¬ (cs = (0 : Int32))) (h_sl10 : sl10 = .unset ∨ ∃ w, sl10 = .val w ∧ w.category = 1)
    (X0 : Stand p l e room_1 (s.setVm vm0) m args below meth c s₁ locs 12 300) (hx : p.tables.exec = Jvm.exec) (hZ : Z.Warmed39 (s.setVm vm0).vm) (hby : c.code = code) (hml : c.maxLocals = 13) (hown : (s.setVm vm0).vm.findClass "com/example/leanweave/leanweave/QosMeasureOfColumnPinLaw" = some m.cls) (hret : meth.sig.returnType = some .boolean) (hlk : meth.locks = false) (e0 : s₁.heap = h0) (N0 : Fr n0 locs) (hh : s.heap = hs0) (hS : s.Since vm0 k0) (hk : k0 ≤ h0.size) (hCR : CHr Z consts_1 s.vm hs0 vm0 h0) :
    ∃ t o, Steps p.tables e below (s₁.setTop (mkF m 242 #[.val (.int p0_0), .val (.int p0_1), .val (.int p0_2), .val (.int p0_3), .val (.int p0_4), .val (.int p0_5), .val (.int zm), .val (.int zk), .val .null, .val (.ref y9), sl10, sl11, sl12] [])) t ∧ t.status = .running ∧ Ended t below o ∧ ∃ v L, o = .returned v ∧ (v = some (.int (1 : Int32)) ∧ Fr n0 L) ∧ CHr Z consts_1 s.vm s.heap t.vm t.heap ∧ ReturnedEndW s o t L 32 4288 := by
  have pre0 : ∀ t, Steps p.tables e below (s₁.setTop (mkF m 242 #[.val (.int p0_0), .val (.int p0_1), .val (.int p0_2), .val (.int p0_3), .val (.int p0_4), .val (.int p0_5), .val (.int zm), .val (.int zk), .val .null, .val (.ref y9), sl10, sl11, sl12] [])) t → Steps p.tables e below (s₁.setTop (mkF m 242 #[.val (.int p0_0), .val (.int p0_1), .val (.int p0_2), .val (.int p0_3), .val (.int p0_4), .val (.int p0_5), .val (.int zm), .val (.int zk), .val .null, .val (.ref y9), sl10, sl11, sl12] [])) t := fun t k => k
  have S_EMPTYk := own_stakeep S_EMPTY Kb all0
  have E_u_EMPTYk := E_u_EMPTY.keep Kb
  have F_u_EMPTY_valuek := F_u_EMPTY_value.keep Kb nin0
  have S__VALUESk := own_stakeep S__VALUES Kb all0
  have E_u__VALUESk := E_u__VALUES.keep Kb
  have S_RESPONSE_TIMEk := own_stakeep S_RESPONSE_TIME Kb all0
  have E_u_RESPONSE_TIMEk := E_u_RESPONSE_TIME.keep Kb
  have S_THROUGHPUTk := own_stakeep S_THROUGHPUT Kb all0
  have E_u_THROUGHPUTk := E_u_THROUGHPUT.keep Kb
  have S_COSTk := own_stakeep S_COST Kb all0
  have E_u_COSTk := E_u_COST.keep Kb
  have F_u_RESPONSE_TIME_columnk := F_u_RESPONSE_TIME_column.keep Kb nin0
  have E_u_RESPONSE_TIME_columnk := E_u_RESPONSE_TIME_column.keep Kb
  have F_u_RESPONSE_TIME_column_coderk := F_u_RESPONSE_TIME_column_coder.keep Kb nin0
  have F_u_RESPONSE_TIME_column_valuek := F_u_RESPONSE_TIME_column_value.keep Kb nin0
  have F_u_THROUGHPUT_columnk := F_u_THROUGHPUT_column.keep Kb nin0
  have E_u_THROUGHPUT_columnk := E_u_THROUGHPUT_column.keep Kb
  have F_u_THROUGHPUT_column_coderk := F_u_THROUGHPUT_column_coder.keep Kb nin0
  have F_u_THROUGHPUT_column_valuek := F_u_THROUGHPUT_column_value.keep Kb nin0
  have F_u_COST_columnk := F_u_COST_column.keep Kb nin0
  have E_u_COST_columnk := E_u_COST_column.keep Kb
  have F_u_COST_column_coderk := F_u_COST_column_coder.keep Kb nin0
  have F_u_COST_column_valuek := F_u_COST_column_value.keep Kb nin0
  have V_u__VALUESk := V_u__VALUES.keep Kb nin0
  have V_u_RESPONSE_TIME_column_valuek := V_u_RESPONSE_TIME_column_value.keep Kb nin0
  have V_u_THROUGHPUT_column_valuek := V_u_THROUGHPUT_column_value.keep Kb nin0
  have V_u_COST_column_valuek := V_u_COST_column_value.keep Kb nin0
  obtain ⟨_, _, ⟨T1, L1, k1, n1⟩, -, X1, ⟨Lc1, hQ1, l1, y1, z1⟩, st1⟩ := Jvm.LawKit.callS X0 hx (y := (⟨"com/example/leanweave/leanweave/QosMeasure", "ofColumn", "(Ljava/lang/String;)Ljava/util/Optional;"⟩ : MethodName)) hown (mvT hZ (wd hw 73 rfl)) (mvT hZ (wd hw 74 rfl)) (mvT hZ (wd hw 75 rfl)) (mvT hZ (wd hw 76 rfl)) (by decide) (backOf (W := 0) (rm18 l Z a0 hw [] u_EMPTY u__VALUES cl_u__VALUES u_RESPONSE_TIME u_THROUGHPUT u_COST u_RESPONSE_TIME_column u_RESPONSE_TIME_column_value cl_u_RESPONSE_TIME_column_value u_THROUGHPUT_column u_THROUGHPUT_column_value cl_u_THROUGHPUT_column_value u_COST_column u_COST_column_value cl_u_COST_column_value cs h0 n0 Z0 S_EMPTYk E_u_EMPTYk F_u_EMPTY_valuek S__VALUESk E_u__VALUESk S_RESPONSE_TIMEk E_u_RESPONSE_TIMEk S_THROUGHPUTk E_u_THROUGHPUTk S_COSTk E_u_COSTk F_u_RESPONSE_TIME_columnk E_u_RESPONSE_TIME_columnk F_u_RESPONSE_TIME_column_coderk F_u_RESPONSE_TIME_column_valuek F_u_THROUGHPUT_columnk E_u_THROUGHPUT_columnk F_u_THROUGHPUT_column_coderk F_u_THROUGHPUT_column_valuek F_u_COST_columnk E_u_COST_columnk F_u_COST_column_coderk F_u_COST_column_valuek V_u__VALUESk V_u_RESPONSE_TIME_column_valuek V_u_THROUGHPUT_column_valuek V_u_COST_column_valuek Sc hcs) hZ (wd hw 76 rfl) (wd hw 75 rfl) (by decide) (by decide)) (g := (mkF m 244 #[.val (.int p0_0), .val (.int p0_1), .val (.int p0_2), .val (.int p0_3), .val (.int p0_4), .val (.int p0_5), .val (.int zm), .val (.int zk), .val .null, .val (.ref y9), sl10, sl11, sl12] [.null])) rfl (by rw [hml]; rfl) (argsL := [.null]) (rest := []) (lenOf pd_10 rfl) rfl (by show 2 * 0 + _ ≤ _; exact Nat.le_of_eq rfl) (hb hby at_244) (fun _ _ => ⟨rfl, e0, (by decide : 12 + 1 ≤ _), (by decide : 300 + 3 ≤ _)⟩)
  dsimp only [Pt.U, Pt.locs, Pt.cells, Pt.slots] at X1 l1 y1 z1 st1 hQ1
  rw [l1, y1, z1] at X1
  obtain ⟨rfl, N1q, Kc1⟩ := hQ1
  have Zs1 : n0 ≤ T1.heap.size := Nat.le_trans Z0 Kc1.1
  have hCR := hCR.trans (CHr.keep Kc1 sf0 hCR.1)
  have hk := Nat.le_trans hk Kc1.1
  have F2 := own_stakeep Sc Kc1 all0
  have F3 := own_stakeep S_EMPTYk Kc1 all0
  have F4 := E_u_EMPTYk.keep Kc1
  have F5 := F_u_EMPTY_valuek.keep Kc1 nin0
  have F6 := own_stakeep S__VALUESk Kc1 all0
  have F7 := E_u__VALUESk.keep Kc1
  have F8 := own_stakeep S_RESPONSE_TIMEk Kc1 all0
  have F9 := E_u_RESPONSE_TIMEk.keep Kc1
  have F10 := own_stakeep S_THROUGHPUTk Kc1 all0
  have F11 := E_u_THROUGHPUTk.keep Kc1
  have F12 := own_stakeep S_COSTk Kc1 all0
  have F13 := E_u_COSTk.keep Kc1
  have F14 := F_u_RESPONSE_TIME_columnk.keep Kc1 nin0
  have F15 := E_u_RESPONSE_TIME_columnk.keep Kc1
  have F16 := F_u_RESPONSE_TIME_column_coderk.keep Kc1 nin0
  have F17 := F_u_RESPONSE_TIME_column_valuek.keep Kc1 nin0
  have F18 := F_u_THROUGHPUT_columnk.keep Kc1 nin0
  have F19 := E_u_THROUGHPUT_columnk.keep Kc1
  have F20 := F_u_THROUGHPUT_column_coderk.keep Kc1 nin0
  have F21 := F_u_THROUGHPUT_column_valuek.keep Kc1 nin0
  have F22 := F_u_COST_columnk.keep Kc1 nin0
  have F23 := E_u_COST_columnk.keep Kc1
  have F24 := F_u_COST_column_coderk.keep Kc1 nin0
  have F25 := F_u_COST_column_valuek.keep Kc1 nin0
  have F26 := V_u__VALUESk.keep Kc1 nin0
  have F27 := V_u_RESPONSE_TIME_column_valuek.keep Kc1 nin0
  have F28 := V_u_THROUGHPUT_column_valuek.keep Kc1 nin0
  have F29 := V_u_COST_column_valuek.keep Kc1 nin0
  have N1 := Fr.app N0 N1q
  obtain ⟨cq30, kq30, q30a, q30b, q30c⟩ := isOf hZ rfl F4
  obtain ⟨_, _, ⟨T30, L30, k30, n30⟩, -, X30, ⟨Lc30, hQ30, l30, y30, z30⟩, st30⟩ := X1.virtualBack hx (y := (⟨"java/util/Optional", "orElse", "(Ljava/lang/Object;)Ljava/lang/Object;"⟩ : MethodName)) (z := (⟨"java/util/Optional", "orElse", "(Ljava/lang/Object;)Ljava/lang/Object;"⟩ : MethodName)) hown (mvT hZ (wd hw 111 rfl)) (mvT hZ (wd hw 112 rfl)) (notFace_of_selects (args := #[]) (mvT hZ (wd hw 114 rfl))) (mvT hZ (wd hw 114 rfl)) (mvT hZ (wd hw 113 rfl)) (by decide) (backOf (W := 0) (rm11 l Z a0 hw [] u_EMPTY T1.heap n0 Zs1 F5) hZ (wd hw 115 rfl) (wd hw 108 rfl) (by decide) (by decide)) q30a q30c (g := (mkF m 259 #[.val (.int p0_0), .val (.int p0_1), .val (.int p0_2), .val (.int p0_3), .val (.int p0_4), .val (.int p0_5), .val (.int zm), .val (.int zk), .val .null, .val (.ref u_EMPTY), sl10, sl11, sl12] [.null, (.ref u_EMPTY)])) rfl (by rw [hml]; rfl) (Steps.refl _) (argsL := [.null]) (rest := []) (lenOf pd_4 rfl) rfl (by show 2 * 0 + _ ≤ _; exact Nat.le_of_eq rfl) (hb hby at_259) (fun _ _ => ⟨rfl, rfl, (by decide : 13 + 0 ≤ _), (by decide : 303 + 0 ≤ _)⟩)
  dsimp only [Pt.U, Pt.locs, Pt.cells, Pt.slots] at X30 l30 y30 z30 st30 hQ30
  rw [l30, y30, z30] at X30
  obtain ⟨rfl, N30q, eh30⟩ := hQ30
  have N30 := Fr.app N1 N30q
  obtain ⟨_, _, ⟨T31, L31, k31, n31⟩, -, X31, ⟨Lc31, hQ31, l31, y31, z31⟩, st31⟩ := Jvm.LawKit.callS X30 hx (y := (⟨"com/example/leanweave/leanweave/QosMeasureOfColumnPinLaw", "ref", "(Ljava/lang/String;)Lcom/example/leanweave/leanweave/QosMeasure;"⟩ : MethodName)) hown (mvT hZ (wd hw 118 rfl)) (mvT hZ (wd hw 119 rfl)) (mvT hZ (wd hw 25 rfl)) (mvT hZ (wd hw 120 rfl)) (by decide) (backOf (W := 1) (rm23 l Z a0 hw []  T1.heap n0 Zs1 ) hZ (wd hw 120 rfl) (wd hw 25 rfl) (by decide) (by decide)) (g := (mkF m 271 #[.val (.int p0_0), .val (.int p0_1), .val (.int p0_2), .val (.int p0_3), .val (.int p0_4), .val (.int p0_5), .val (.int zm), .val (.int zk), .val .null, .val (.ref u_EMPTY), .val .null, sl11, sl12] [.null, .null])) rfl (by rw [hml]; rfl) (argsL := [.null]) (rest := [.null]) (lenOf pd_11 rfl) rfl (by show 2 * 0 + _ ≤ _; exact Nat.le_of_eq rfl) (hb hby at_271) (fun _ _ => ⟨rfl, eh30, (by decide : 13 + 0 ≤ _), (by decide : 303 + 0 ≤ _)⟩)
  dsimp only [Pt.U, Pt.locs, Pt.cells, Pt.slots] at X31 l31 y31 z31 st31 hQ31
  rw [l31, y31, z31] at X31
  obtain ⟨rfl, N31q, eh31⟩ := hQ31
  have N31 := Fr.app N30 N31q
  have k32 : ∀ t, Steps p.tables e below (T31.setTop (mkF m 282 #[.val (.int p0_0), .val (.int p0_1), .val (.int p0_2), .val (.int p0_3), .val (.int p0_4), .val (.int p0_5), .val (.int zm), .val (.int zk), .val .null, .val (.ref u_EMPTY), .val .null, sl11, sl12] [(.int (1 : Int32))])) t → Steps p.tables e below (s₁.setTop (mkF m 242 #[.val (.int p0_0), .val (.int p0_1), .val (.int p0_2), .val (.int p0_3), .val (.int p0_4), .val (.int p0_5), .val (.int zm), .val (.int zk), .val .null, .val (.ref y9), sl10, sl11, sl12] [])) t := by
    intro t k
    refine pre0 t ?_
    refine XS.aload X0.here hx rfl (hb hby at_242) rfl rfl ?_
    refine st1 _ ?_
    refine XS.astore X1.here hx rfl (hb hby at_247) rfl rfl (l' := #[.val (.int p0_0), .val (.int p0_1), .val (.int p0_2), .val (.int p0_3), .val (.int p0_4), .val (.int p0_5), .val (.int zm), .val (.int zk), .val .null, .val (.ref u_EMPTY), sl10, sl11, sl12]) rfl ?_
    refine XS.aload X1.here hx rfl (hb hby at_249) rfl rfl ?_
    refine XS.ifnonnullYes X1.here hx rfl (pc0 := 251) (pc' := 256) rfl (hb hby at_251) rfl (by decide) (by decide) ?_
    refine XS.aload X1.here hx rfl (hb hby at_256) rfl rfl ?_
    refine XS.aconstNull X1.here hx rfl (hb hby at_258) ?_
    refine st30.trans ?_
    refine X30.checkcastNull hx (g := (mkF m 262 #[.val (.int p0_0), .val (.int p0_1), .val (.int p0_2), .val (.int p0_3), .val (.int p0_4), .val (.int p0_5), .val (.int zm), .val (.int zk), .val .null, .val (.ref u_EMPTY), sl10, sl11, sl12] [.null])) rfl rfl (hb hby at_262) _ ?_
    refine XS.astoreS X30.here hx rfl (hb hby at_265) rfl rfl rfl rfl h_sl10 ?_
    show Steps p.tables e below (T30.setTop (mkF m 267 #[.val (.int p0_0), .val (.int p0_1), .val (.int p0_2), .val (.int p0_3), .val (.int p0_4), .val (.int p0_5), .val (.int zm), .val (.int zk), .val .null, .val (.ref u_EMPTY), .val .null, sl11, sl12] [])) _
    refine XS.aload X30.here hx rfl (hb hby at_267) rfl rfl ?_
    refine XS.aload X30.here hx rfl (hb hby at_269) rfl rfl ?_
    refine st31 _ ?_
    refine Jvm.RoadKit.acmp (g := (mkF m 274 #[.val (.int p0_0), .val (.int p0_1), .val (.int p0_2), .val (.int p0_3), .val (.int p0_4), .val (.int p0_5), .val (.int zm), .val (.int zk), .val .null, .val (.ref u_EMPTY), .val .null, sl11, sl12] [.null, .null])) X31 hx rfl rfl rfl (pc0 := 274) (pc' := 277) (same := true) rfl (hb hby at_274) rfl (decide_eq_true rfl) (by decide) (by decide) ?_
    refine XS.iconst X31.here hx rfl (hb hby at_277) ?_
    refine XS.goto X31.here hx rfl (pc0 := 278) (pc' := 282) rfl (hb hby at_278) (by decide) (by decide) ?_
    exact k
  obtain ⟨fs, hr, hrun, hended, hE1, hE2, hE3, hE4⟩ := X31.leaveW hS (by rw [eh31]; exact hk) (v := some (.int (1 : Int32))) (fun h => by rw [hret] at h; cases h)
  have hCE := hCR.trans (CHv.at X31 hZ hEL hCR.1)
  refine ⟨_, _, k32 _ ?_, hrun, hended, _, _, rfl, ?_, (by show CHr Z consts_1 s.vm s.heap T31.vm T31.heap; rw [hh, eh31]; exact hCE), ⟨_, rfl⟩, hE2, hE3, hE4.mono (by decide) (by decide)⟩
  · exact retN X31 hx (t := .boolean) hret (by simp) (hb hby at_282) hr
  · skip
    exact ⟨rfl, N31⟩
theorem pd_12 : parseMethodDescriptor "([CLjava/lang/String;C)V" = some ⟨[(.array .char), (.object "java/lang/String"), .char], none⟩ := by decide +kernel
theorem pd_13 : parseMethodDescriptor "([C)V" = some ⟨[(.array .char)], none⟩ := by decide +kernel
theorem ef_0 (m : MethodId) (p0_0 : Int32) (p0_1 : Int32) (p0_2 : Int32) (p0_3 : Int32) (p0_4 : Int32) (p0_5 : Int32) : entryFrame m #[(.int p0_0), (.int p0_1), (.int p0_2), (.int p0_3), (.int p0_4), (.int p0_5)] maxLocals = mkF m 0 #[.val (.int p0_0), .val (.int p0_1), .val (.int p0_2), .val (.int p0_3), .val (.int p0_4), .val (.int p0_5), .unset, .unset, .unset, .unset, .unset, .unset, .unset] [] := by first | (simp [entryFrame, mkF, argsToLocals, Value.category, maxLocals]; done) | rfl
def Q0 (Z : State) (p0_0 : Int32) (p0_1 : Int32) (p0_2 : Int32) (p0_3 : Int32) (p0_4 : Int32) (p0_5 : Int32) (u_EMPTY : Addr) (u__VALUES : Addr) (cl_u__VALUES : Cell) (u_RESPONSE_TIME : Addr) (u_THROUGHPUT : Addr) (u_COST : Addr) (u_RESPONSE_TIME_column : Addr) (u_RESPONSE_TIME_column_value : Addr) (cl_u_RESPONSE_TIME_column_value : Cell) (u_THROUGHPUT_column : Addr) (u_THROUGHPUT_column_value : Addr) (cl_u_THROUGHPUT_column_value : Cell) (u_COST_column : Addr) (u_COST_column_value : Addr) (cl_u_COST_column_value : Cell) (cs : Int32) (fm : Value) (h0 : Heap) (n0 : Nat) (v : Option Value) (h : Heap) (L : List Loc) : Prop := v = some (.int (1 : Int32)) ∧ Fr n0 L
set_option maxRecDepth 65536 in
set_option maxHeartbeats 40000000 in
theorem rm0 (l : Launch) (Z : State) (a0 : Array Value) (hw : ∀ d ∈ tables_1, d.before a0 Z = true) (ws : List Jvm.Cond) (hEL : EW Z a0 consts_1) (wS : ∀ a ∈ Bundle.stringAtoms, a.before a0 Z = true) (p0_0 : Int32) (p0_1 : Int32) (p0_2 : Int32) (p0_3 : Int32) (p0_4 : Int32) (p0_5 : Int32) (u_EMPTY : Addr) (u__VALUES : Addr) (cl_u__VALUES : Cell) (u_RESPONSE_TIME : Addr) (u_THROUGHPUT : Addr) (u_COST : Addr) (u_RESPONSE_TIME_column : Addr) (u_RESPONSE_TIME_column_value : Addr) (cl_u_RESPONSE_TIME_column_value : Cell) (u_THROUGHPUT_column : Addr) (u_THROUGHPUT_column_value : Addr) (cl_u_THROUGHPUT_column_value : Cell) (u_COST_column : Addr) (u_COST_column_value : Addr) (cl_u_COST_column_value : Cell) (cs : Int32) (fm : Value) (h0 : Heap) (n0 : Nat) (Z0 : n0 ≤ h0.size) (S_EMPTY : Sta Z h0 "java/util/Optional" "EMPTY" "Ljava/util/Optional;" (.ref u_EMPTY)) (E_u_EMPTY : Exa Z h0 u_EMPTY "java/util/Optional") (F_u_EMPTY_value : Fld Z h0 u_EMPTY "java/util/Optional" "value" "Ljava/lang/Object;" .null) (S__VALUES : Sta Z h0 "com/example/leanweave/leanweave/QosMeasure" "$VALUES" "[Lcom/example/leanweave/leanweave/QosMeasure;" (.ref u__VALUES)) (E_u__VALUES : Exa Z h0 u__VALUES "[Lcom/example/leanweave/leanweave/QosMeasure;") (S_RESPONSE_TIME : Sta Z h0 "com/example/leanweave/leanweave/QosMeasure" "RESPONSE_TIME" "Lcom/example/leanweave/leanweave/QosMeasure;" (.ref u_RESPONSE_TIME)) (E_u_RESPONSE_TIME : Exa Z h0 u_RESPONSE_TIME "com/example/leanweave/leanweave/QosMeasure") (S_THROUGHPUT : Sta Z h0 "com/example/leanweave/leanweave/QosMeasure" "THROUGHPUT" "Lcom/example/leanweave/leanweave/QosMeasure;" (.ref u_THROUGHPUT)) (E_u_THROUGHPUT : Exa Z h0 u_THROUGHPUT "com/example/leanweave/leanweave/QosMeasure") (S_COST : Sta Z h0 "com/example/leanweave/leanweave/QosMeasure" "COST" "Lcom/example/leanweave/leanweave/QosMeasure;" (.ref u_COST)) (E_u_COST : Exa Z h0 u_COST "com/example/leanweave/leanweave/QosMeasure") (F_u_RESPONSE_TIME_column : Fld Z h0 u_RESPONSE_TIME "com/example/leanweave/leanweave/QosMeasure" "column" "Ljava/lang/String;" (.ref u_RESPONSE_TIME_column)) (E_u_RESPONSE_TIME_column : Exa Z h0 u_RESPONSE_TIME_column "java/lang/String") (F_u_RESPONSE_TIME_column_coder : Fld Z h0 u_RESPONSE_TIME_column "java/lang/String" "coder" "B" (.int (0 : Int32))) (F_u_RESPONSE_TIME_column_value : Fld Z h0 u_RESPONSE_TIME_column "java/lang/String" "value" "[B" (.ref u_RESPONSE_TIME_column_value)) (F_u_THROUGHPUT_column : Fld Z h0 u_THROUGHPUT "com/example/leanweave/leanweave/QosMeasure" "column" "Ljava/lang/String;" (.ref u_THROUGHPUT_column)) (E_u_THROUGHPUT_column : Exa Z h0 u_THROUGHPUT_column "java/lang/String") (F_u_THROUGHPUT_column_coder : Fld Z h0 u_THROUGHPUT_column "java/lang/String" "coder" "B" (.int (0 : Int32))) (F_u_THROUGHPUT_column_value : Fld Z h0 u_THROUGHPUT_column "java/lang/String" "value" "[B" (.ref u_THROUGHPUT_column_value)) (F_u_COST_column : Fld Z h0 u_COST "com/example/leanweave/leanweave/QosMeasure" "column" "Ljava/lang/String;" (.ref u_COST_column)) (E_u_COST_column : Exa Z h0 u_COST_column "java/lang/String") (F_u_COST_column_coder : Fld Z h0 u_COST_column "java/lang/String" "coder" "B" (.int (0 : Int32))) (F_u_COST_column_value : Fld Z h0 u_COST_column "java/lang/String" "value" "[B" (.ref u_COST_column_value)) (V_u__VALUES : Arv Z h0 u__VALUES cl_u__VALUES.cls (.object "com/example/leanweave/leanweave/QosMeasure") (3 : Int32) [(.ref u_RESPONSE_TIME), (.ref u_THROUGHPUT), (.ref u_COST)] .null) (V_u_RESPONSE_TIME_column_value : Arv Z h0 u_RESPONSE_TIME_column_value cl_u_RESPONSE_TIME_column_value.cls .byte (16 : Int32) [(.int (114 : Int32)), (.int (101 : Int32)), (.int (115 : Int32)), (.int (112 : Int32)), (.int (111 : Int32)), (.int (110 : Int32)), (.int (115 : Int32)), (.int (101 : Int32)), (.int (95 : Int32)), (.int (116 : Int32)), (.int (105 : Int32)), (.int (109 : Int32)), (.int (101 : Int32)), (.int (95 : Int32)), (.int (109 : Int32)), (.int (115 : Int32))] (.int (0 : Int32))) (V_u_THROUGHPUT_column_value : Arv Z h0 u_THROUGHPUT_column_value cl_u_THROUGHPUT_column_value.cls .byte (16 : Int32) [(.int (116 : Int32)), (.int (104 : Int32)), (.int (114 : Int32)), (.int (111 : Int32)), (.int (117 : Int32)), (.int (103 : Int32)), (.int (104 : Int32)), (.int (112 : Int32)), (.int (117 : Int32)), (.int (116 : Int32)), (.int (95 : Int32)), (.int (112 : Int32)), (.int (101 : Int32)), (.int (114 : Int32)), (.int (95 : Int32)), (.int (115 : Int32))] (.int (0 : Int32))) (V_u_COST_column_value : Arv Z h0 u_COST_column_value cl_u_COST_column_value.cls .byte (4 : Int32) [(.int (99 : Int32)), (.int (111 : Int32)), (.int (115 : Int32)), (.int (116 : Int32))] (.int (0 : Int32))) (Sc : Sta Z h0 "java/lang/String" "COMPACT_STRINGS" "Z" (.int cs)) (Sf : Sta Z h0 "jdk/internal/util/Preconditions" "SIOOBE_FORMATTER" "Ljava/util/function/BiFunction;" fm) (hcs : ¬ (cs = (0 : Int32))) (hfm : fm.isRef = true) :
    MetFree l x (head1 (Jvm.Cond.code x code maxLocals ret :: ws) room_1) (fun a U => a = #[(.int p0_0), (.int p0_1), (.int p0_2), (.int p0_3), (.int p0_4), (.int p0_5)] ∧ Z.Warmed39 U.vm ∧ U.heap = h0 ∧ CHv Z consts_1 U.vm h0) (fun _ _ _ _ _ => True) (fun _ U o U' => ∃ v L, o = .returned v ∧ Q0 Z p0_0 p0_1 p0_2 p0_3 p0_4 p0_5 u_EMPTY u__VALUES cl_u__VALUES u_RESPONSE_TIME u_THROUGHPUT u_COST u_RESPONSE_TIME_column u_RESPONSE_TIME_column_value cl_u_RESPONSE_TIME_column_value u_THROUGHPUT_column u_THROUGHPUT_column_value cl_u_THROUGHPUT_column_value u_COST_column u_COST_column_value cl_u_COST_column_value cs fm h0 n0 v U'.heap L ∧ CHr Z consts_1 U.vm U.heap U'.vm U'.heap ∧ ReturnedEndW U o U' L 32 4288) := by
  refine MetFree.of_bodySF (plainFor_of_name pn_1) hisR ?_
  intro p e s m args below meth c s₁ Bd hml0 hP hK
  obtain ⟨rfl, hZ, hh, hCH⟩ := hP
  have hx := Bd.exec
  have hby := Bd.bytes
  have hml : c.maxLocals = 13 := hml0
  have hown : s.vm.findClass "com/example/leanweave/leanweave/QosMeasureOfColumnPinLaw" = some m.cls := findClass_of_methodNamed Bd.named
  have hnm := (name_of_methodNamed Bd.named Bd.method).1
  have X0 : Stand p l e room_1 (s.setVm s.vm) m #[(.int p0_0), (.int p0_1), (.int p0_2), (.int p0_3), (.int p0_4), (.int p0_5)] below meth c s₁ [] 0 0 := Stand.of_body Bd
  have e0 : s₁.heap = h0 := by rw [← hh, Bd.state]; rfl
  have N0 := Fr.nil n0
  have hS : s.Since s.vm h0.size := (State.WarmedH.refl s).since _
  have hk : h0.size ≤ h0.size := Nat.le_refl _
  have hCR : CHr Z consts_1 s.vm h0 s.vm h0 := CHr.refl hCH
  have pre0 : ∀ t, Steps p.tables e below (s₁.setTop (mkF m 0 #[.val (.int p0_0), .val (.int p0_1), .val (.int p0_2), .val (.int p0_3), .val (.int p0_4), .val (.int p0_5), .unset, .unset, .unset, .unset, .unset, .unset, .unset] [])) t → Steps p.tables e below (s₁.setTop (entryFrame m #[(.int p0_0), (.int p0_1), (.int p0_2), (.int p0_3), (.int p0_4), (.int p0_5)] maxLocals)) t := fun t k => castTop (ef_0 m p0_0 p0_1 p0_2 p0_3 p0_4 p0_5) k
  have k1 : ∀ t, Steps p.tables e below (s₁.setTop (mkF m 16 #[.val (.int p0_0), .val (.int p0_1), .val (.int p0_2), .val (.int p0_3), .val (.int p0_4), .val (.int p0_5), .val (.int ((p0_0 &&& (2147483647 : Int32)) % (4 : Int32))), .val (.int ((p0_1 &&& (2147483647 : Int32)) % (5 : Int32))), .unset, .unset, .unset, .unset, .unset] [])) t → Steps p.tables e below (s₁.setTop (entryFrame m #[(.int p0_0), (.int p0_1), (.int p0_2), (.int p0_3), (.int p0_4), (.int p0_5)] maxLocals)) t := by
    intro t k
    refine pre0 t ?_
    refine XS.iloadN X0.here hx rfl (hb hby at_0) rfl ?_
    refine X0.ldcInt hx hown (mvT hZ (hw _ (List.mem_of_getElem? (i := 0) rfl))) (g := (mkF m 1 #[.val (.int p0_0), .val (.int p0_1), .val (.int p0_2), .val (.int p0_3), .val (.int p0_4), .val (.int p0_5), .unset, .unset, .unset, .unset, .unset, .unset, .unset] [(.int p0_0)])) rfl (hb hby at_1) _ ?_
    refine XS.iand X0.here hx rfl (hb hby at_3) rfl ?_
    refine XS.iconst X0.here hx rfl (hb hby at_4) ?_
    refine iremM X0 hx rfl (hb hby at_5) rfl (by decide) ?_
    refine XS.istore X0.here hx rfl (hb hby at_6) rfl (l' := #[.val (.int p0_0), .val (.int p0_1), .val (.int p0_2), .val (.int p0_3), .val (.int p0_4), .val (.int p0_5), .val (.int ((p0_0 &&& (2147483647 : Int32)) % (4 : Int32))), .unset, .unset, .unset, .unset, .unset, .unset]) rfl ?_
    refine XS.iloadN X0.here hx rfl (hb hby at_8) rfl ?_
    refine X0.ldcInt hx hown (mvT hZ (hw _ (List.mem_of_getElem? (i := 0) rfl))) (g := (mkF m 9 #[.val (.int p0_0), .val (.int p0_1), .val (.int p0_2), .val (.int p0_3), .val (.int p0_4), .val (.int p0_5), .val (.int ((p0_0 &&& (2147483647 : Int32)) % (4 : Int32))), .unset, .unset, .unset, .unset, .unset, .unset] [(.int p0_1)])) rfl (hb hby at_9) _ ?_
    refine XS.iand X0.here hx rfl (hb hby at_11) rfl ?_
    refine XS.iconst X0.here hx rfl (hb hby at_12) ?_
    refine iremM X0 hx rfl (hb hby at_13) rfl (by decide) ?_
    refine XS.istore X0.here hx rfl (hb hby at_14) rfl (l' := #[.val (.int p0_0), .val (.int p0_1), .val (.int p0_2), .val (.int p0_3), .val (.int p0_4), .val (.int p0_5), .val (.int ((p0_0 &&& (2147483647 : Int32)) % (4 : Int32))), .val (.int ((p0_1 &&& (2147483647 : Int32)) % (5 : Int32))), .unset, .unset, .unset, .unset, .unset]) rfl ?_
    exact k
  obtain ⟨z2, hz2⟩ : ∃ z, z = ((p0_0 &&& (2147483647 : Int32)) % (4 : Int32)) := ⟨_, rfl⟩
  rw [← hz2] at k1
  have hz2' : z2 = (0 : Int32) ∨ z2 = (1 : Int32) ∨ z2 = (2 : Int32) ∨ z2 = (3 : Int32) := by rw [hz2]; exact own_mod4 _
  rcases hz2' with rfl | rfl | rfl | rfl
  · skip
    obtain ⟨z3, hz3⟩ : ∃ z, z = ((p0_1 &&& (2147483647 : Int32)) % (5 : Int32)) := ⟨_, rfl⟩
    rw [← hz3] at k1
    have hz3' : z3 = (0 : Int32) ∨ z3 = (1 : Int32) ∨ z3 = (2 : Int32) ∨ z3 = (3 : Int32) ∨ z3 = (4 : Int32) := by rw [hz3]; exact own_mod5 _
    rcases hz3' with rfl | rfl | rfl | rfl | rfl
    · skip
      obtain ⟨b4, T4, h4, k4, d4, kb4, X4, e4, E4, hS, hk, hZ, hown, Ex4, Fc4, Fv4, V4, lta4, ltb4, hC4, hL4, hsf4, st4⟩ := ldcCH X0 hx hZ hown (wd hw 1 rfl) wS e0 hS hk hEL (List.mem_of_getElem? (i := 0) rfl) hCR.1 (vs := [(.int (114 : Int32)), (.int (101 : Int32)), (.int (115 : Int32)), (.int (112 : Int32)), (.int (111 : Int32)), (.int (110 : Int32)), (.int (115 : Int32)), (.int (101 : Int32)), (.int (95 : Int32)), (.int (116 : Int32)), (.int (105 : Int32)), (.int (109 : Int32)), (.int (101 : Int32)), (.int (95 : Int32)), (.int (109 : Int32)), (.int (115 : Int32))]) (z := (16 : Int32)) ⟨by decide, rfl⟩ (by decide) rfl (g := (mkF m 119 #[.val (.int p0_0), .val (.int p0_1), .val (.int p0_2), .val (.int p0_3), .val (.int p0_4), .val (.int p0_5), .val (.int (0 : Int32)), .val (.int (0 : Int32)), .unset, .unset, .unset, .unset, .unset] [])) rfl (hb hby at_119) (n := 64) (by decide) (by decide) (by decide) (by decide)
      have hCR := hCR.trans hC4
      have Zs4 : n0 ≤ h4.size := Nat.le_trans Z0 E4.1
      have K4 : Keep h0 h4 [] := (Keep.refl h0 []).ext E4
      have F5 := Sc.ext E4
      have F6 := Sf.ext E4
      obtain ⟨cq7, kq7, q7a, q7b, q7c⟩ := isOf hZ e4 Ex4
      obtain ⟨_, _, ⟨T7, L7, k7, n7⟩, -, X7, ⟨Lc7, hQ7, l7, y7, z7⟩, st7⟩ := X4.virtualBack hx (y := (⟨"java/lang/String", "length", "()I"⟩ : MethodName)) (z := (⟨"java/lang/String", "length", "()I"⟩ : MethodName)) hown (mvT hZ (wd hw 9 rfl)) (mvT hZ (wd hw 10 rfl)) (notFace_of_selects (args := #[]) (mvT hZ (wd hw 12 rfl))) (mvT hZ (wd hw 12 rfl)) (mvT hZ (wd hw 11 rfl)) (by decide) (StrChars.Road.lenW (W := 0) hZ (fun d hd => hw d (own_sub_lenW d hd)) (kI := 4) (wd hw 3 rfl) (cs := own_LR) Ex4 Fv4 Fc4 V4 own_codR own_bdR F5 hcs (by decide) (by decide) (by decide)) q7a q7c (g := (mkF m 141 #[.val (.int p0_0), .val (.int p0_1), .val (.int p0_2), .val (.int p0_3), .val (.int p0_4), .val (.int p0_5), .val (.int (0 : Int32)), .val (.int (0 : Int32)), .unset, .val (.ref b4), .unset, .unset, .unset] [(.ref b4)])) rfl (by rw [hml]; rfl) (Steps.refl _) (argsL := []) (rest := []) (lenOf pd_1 rfl) rfl (by show 2 * 0 + _ ≤ _; exact Nat.le_of_eq rfl) (hb hby at_141) (fun _ _ => ⟨rfl, e4, (by decide : 2 + 0 ≤ _), (by decide : 68 + 0 ≤ _)⟩)
      dsimp only [Pt.U, Pt.locs, Pt.cells, Pt.slots] at X7 l7 y7 z7 st7 hQ7
      rw [l7, y7, z7] at X7
      obtain ⟨rfl, rfl, eh7⟩ := hQ7
      have N7 := Fr.app N0 (Fr.nil n0)
      obtain ⟨b8, g8⟩ : ∃ z, z = h4.size := ⟨_, rfl⟩
      obtain ⟨T8, h8, k8, X8, e8, E8, A8, st8⟩ := newP X7 hx hZ (wd hw 22 rfl) eh7 (g := (mkF m 190 #[.val (.int p0_0), .val (.int p0_1), .val (.int p0_2), .val (.int p0_3), .val (.int p0_4), .val (.int p0_5), .val (.int (0 : Int32)), .val (.int (0 : Int32)), .unset, .val (.ref b4), .val (.int (16 : Int32)), .val (.int (16 : Int32)), .unset] [(.int (16 : Int32))])) rfl (hb hby at_190) rfl (by decide) (cap := 16) (by decide) (by decide) (by decide) (by decide)
      rw [← g8] at A8 st8
      have ne9 : b4 ≠ b8 := Nat.ne_of_lt (Nat.lt_of_lt_of_le Ex4.lt (Nat.le_of_eq g8.symm))
      have ne10 : d4 ≠ b8 := Nat.ne_of_lt (Nat.lt_of_lt_of_le V4.lt (Nat.le_of_eq g8.symm))
      have sfn8 := Safe.new (Z := Z) (EL := consts_1) (vm := T4.vm) (Nat.le_of_eq g8.symm)
      have sf11 := Safe.ext E8 hCR.1 sfn8
      have hCR := hCR.trans (CHr.ext E8 hCR.1)
      have hk := Nat.le_trans hk E8.1
      have gg8 : n0 ≤ b8 := Nat.le_trans Zs4 (Nat.le_of_eq g8.symm)
      have sz8 : h0.size ≤ b8 := Nat.le_trans K4.1 (Nat.le_of_eq g8.symm)
      have Zs8 : n0 ≤ h8.size := Nat.le_trans Zs4 E8.1
      have K8 : Keep h0 h8 [] := K4.ext E8
      have F12 := F5.ext E8
      have F13 := F6.ext E8
      have F14 := Ex4.ext E8
      have F15 := Fc4.ext E8
      have F16 := Fv4.ext E8
      have F17 := V4.ext E8
      have V8 : Arv Z h8 b8 k8 .char (16 : Int32) [(.int (0 : Int32)), (.int (0 : Int32)), (.int (0 : Int32)), (.int (0 : Int32)), (.int (0 : Int32)), (.int (0 : Int32)), (.int (0 : Int32)), (.int (0 : Int32)), (.int (0 : Int32)), (.int (0 : Int32)), (.int (0 : Int32)), (.int (0 : Int32)), (.int (0 : Int32)), (.int (0 : Int32)), (.int (0 : Int32)), (.int (0 : Int32))] (.int (0 : Int32)) := (Arv.new A8 (by decide)).pad (pad_rep [] (.int (0 : Int32)) 16)
      have k18 : ∀ t, Steps p.tables e below (T8.setTop (mkF m 205 #[.val (.int p0_0), .val (.int p0_1), .val (.int p0_2), .val (.int p0_3), .val (.int p0_4), .val (.int p0_5), .val (.int (0 : Int32)), .val (.int (0 : Int32)), .unset, .val (.ref b4), .val (.int (16 : Int32)), .val (.int (16 : Int32)), .val (.ref b8)] [(.int (p0_4 &&& (255 : Int32)).toUInt32.toUInt16.toUInt32.toInt32), (.ref b4), (.ref b8)])) t → Steps p.tables e below (s₁.setTop (entryFrame m #[(.int p0_0), (.int p0_1), (.int p0_2), (.int p0_3), (.int p0_4), (.int p0_5)] maxLocals)) t := by
        intro t k
        refine k1 t ?_
        refine XS.iload X0.here hx rfl (hb hby at_16) rfl ?_
        refine XS.iconst X0.here hx rfl (hb hby at_18) ?_
        refine XS.icmpYes X0.here hx rfl (pc0 := 19) (pc' := 114) rfl (hb hby at_19) rfl (feq (by decide : ¬ ((0 : Int32) = (3 : Int32)))).2 (by decide) (by decide) ?_
        refine XS.iload X0.here hx rfl (hb hby at_114) rfl ?_
        refine XS.ifNo X0.here hx rfl (hb hby at_116) rfl ((if0 _ _).trans (teq (by decide : (0 : Int32) = (0 : Int32))).2) ?_
        show Steps p.tables e below (s₁.setTop (mkF m 119 #[.val (.int p0_0), .val (.int p0_1), .val (.int p0_2), .val (.int p0_3), .val (.int p0_4), .val (.int p0_5), .val (.int (0 : Int32)), .val (.int (0 : Int32)), .unset, .unset, .unset, .unset, .unset] [])) _
        refine st4 _ ?_
        refine XS.goto X4.here hx rfl (pc0 := 121) (pc' := 137) rfl (hb hby at_121) (by decide) (by decide) ?_
        refine XS.astore X4.here hx rfl (hb hby at_137) rfl rfl (l' := #[.val (.int p0_0), .val (.int p0_1), .val (.int p0_2), .val (.int p0_3), .val (.int p0_4), .val (.int p0_5), .val (.int (0 : Int32)), .val (.int (0 : Int32)), .unset, .val (.ref b4), .unset, .unset, .unset]) rfl ?_
        refine XS.aload X4.here hx rfl (hb hby at_139) rfl rfl ?_
        refine st7.trans ?_
        refine XS.istore X7.here hx rfl (hb hby at_144) rfl (l' := #[.val (.int p0_0), .val (.int p0_1), .val (.int p0_2), .val (.int p0_3), .val (.int p0_4), .val (.int p0_5), .val (.int (0 : Int32)), .val (.int (0 : Int32)), .unset, .val (.ref b4), .val (.int (16 : Int32)), .unset, .unset]) rfl ?_
        refine XS.iload X7.here hx rfl (hb hby at_146) rfl ?_
        refine XS.iconst X7.here hx rfl (hb hby at_148) ?_
        refine XS.icmpYes X7.here hx rfl (pc0 := 149) (pc' := 158) rfl (hb hby at_149) rfl (feq (by decide : ¬ ((0 : Int32) = (4 : Int32)))).2 (by decide) (by decide) ?_
        refine XS.iload X7.here hx rfl (hb hby at_158) rfl ?_
        refine XS.iconst X7.here hx rfl (hb hby at_160) ?_
        refine XS.icmpYes X7.here hx rfl (pc0 := 161) (pc' := 171) rfl (hb hby at_161) rfl (feq (by decide : ¬ ((0 : Int32) = (2 : Int32)))).2 (by decide) (by decide) ?_
        refine XS.iload X7.here hx rfl (hb hby at_171) rfl ?_
        refine XS.iconst X7.here hx rfl (hb hby at_173) ?_
        refine XS.icmpYes X7.here hx rfl (pc0 := 174) (pc' := 184) rfl (hb hby at_174) rfl (feq (by decide : ¬ ((0 : Int32) = (3 : Int32)))).2 (by decide) (by decide) ?_
        refine XS.iload X7.here hx rfl (hb hby at_184) rfl ?_
        refine XS.istore X7.here hx rfl (hb hby at_186) rfl (l' := #[.val (.int p0_0), .val (.int p0_1), .val (.int p0_2), .val (.int p0_3), .val (.int p0_4), .val (.int p0_5), .val (.int (0 : Int32)), .val (.int (0 : Int32)), .unset, .val (.ref b4), .val (.int (16 : Int32)), .val (.int (16 : Int32)), .unset]) rfl ?_
        refine XS.iload X7.here hx rfl (hb hby at_188) rfl ?_
        show Steps p.tables e below (T7.setTop (mkF m 190 #[.val (.int p0_0), .val (.int p0_1), .val (.int p0_2), .val (.int p0_3), .val (.int p0_4), .val (.int p0_5), .val (.int (0 : Int32)), .val (.int (0 : Int32)), .unset, .val (.ref b4), .val (.int (16 : Int32)), .val (.int (16 : Int32)), .unset] [(.int (16 : Int32))])) _
        refine st8 _ ?_
        refine XS.astore X8.here hx rfl (hb hby at_192) rfl rfl (l' := #[.val (.int p0_0), .val (.int p0_1), .val (.int p0_2), .val (.int p0_3), .val (.int p0_4), .val (.int p0_5), .val (.int (0 : Int32)), .val (.int (0 : Int32)), .unset, .val (.ref b4), .val (.int (16 : Int32)), .val (.int (16 : Int32)), .val (.ref b8)]) rfl ?_
        refine XS.aload X8.here hx rfl (hb hby at_194) rfl rfl ?_
        refine XS.aload X8.here hx rfl (hb hby at_196) rfl rfl ?_
        refine XS.iload X8.here hx rfl (hb hby at_198) rfl ?_
        refine XS.sipush X8.here hx rfl (hb hby at_200) ?_
        refine XS.iand X8.here hx rfl (hb hby at_203) rfl ?_
        refine XS.i2c X8.here hx rfl (hb hby at_204) rfl ?_
        exact k
      rw [show (p0_4 &&& (255 : Int32)).toUInt32.toUInt16.toUInt32.toInt32 = (p0_4 &&& (255 : Int32)) from own_i2c _ (own_m255 _)] at k18
      have Vr19 : Arv Z h8 b8 k8 .char (16 : Int32) (List.map Value.int (List.replicate 16 (0 : Int32))) (.int (0 : Int32)) := V8
      have Vl20 : Arv Z h8 d4 kb4 .byte (Int32.ofNat own_LR.length) (List.map Value.int (List.map (fun c => c.toInt8.toInt32) own_LR)) (.int (0 : Int32)) := own_lsR ▸ F17
      obtain ⟨_, _, ⟨T21, L21, k21, n21⟩, -, X21, ⟨Lc21, hQ21, l21, y21, z21⟩, st21⟩ := Jvm.LawKit.callS X8 hx (y := (⟨"com/example/leanweave/leanweave/QosMeasureOfColumnPinLaw", "fill", "([CLjava/lang/String;C)V"⟩ : MethodName)) hown (mvT hZ (wd hw 23 rfl)) (mvT hZ (wd hw 24 rfl)) (mvT hZ (wd hw 25 rfl)) (mvT hZ (wd hw 26 rfl)) (by decide) (backOf (W := 0) (rm4 l Z a0 hw [] b8 b4 (p0_4 &&& (255 : Int32)) k8 (16 : Int32) (List.replicate 16 (0 : Int32)) d4 kb4 own_LR cs fm h8 n0 Zs8 Vr19 F14 F16 F15 Vl20 F12 F13 (by decide : (List.replicate 16 (0 : Int32)).length = (16 : Int32).toNatClampNeg) (by decide : ∀ c ∈ (List.replicate 16 (0 : Int32)), ¬ c < 0 ∧ ¬ (255 : Int32) < c) (by decide : ∀ c ∈ own_LR, ¬ c < 0 ∧ ¬ (255 : Int32) < c) (by decide : own_LR.length ≤ 4000) hcs hfm (own_m255 _).1 (own_m255 _).2 ne9 ne10 gg8) hZ (wd hw 26 rfl) (wd hw 25 rfl) (by decide) (by decide)) (g := (mkF m 205 #[.val (.int p0_0), .val (.int p0_1), .val (.int p0_2), .val (.int p0_3), .val (.int p0_4), .val (.int p0_5), .val (.int (0 : Int32)), .val (.int (0 : Int32)), .unset, .val (.ref b4), .val (.int (16 : Int32)), .val (.int (16 : Int32)), .val (.ref b8)] [(.int (p0_4 &&& (255 : Int32))), (.ref b4), (.ref b8)])) rfl (by rw [hml]; rfl) (argsL := [(.ref b8), (.ref b4), (.int (p0_4 &&& (255 : Int32)))]) (rest := []) (lenOf pd_12 rfl) rfl (by show 2 * 0 + _ ≤ _; exact Nat.le_of_eq rfl) (hb hby at_205) (fun _ _ => ⟨rfl, e8, (by decide : 3 + 0 ≤ _), (by decide : 84 + 0 ≤ _)⟩)
      dsimp only [Pt.U, Pt.locs, Pt.cells, Pt.slots] at X21 l21 y21 z21 st21 hQ21
      rw [l21, y21, z21] at X21
      obtain ⟨cb_21, rfl, N21q, Kc21, G21_0, P21_0, P21_1⟩ := hQ21
      have Zs21 : n0 ≤ T21.heap.size := Nat.le_trans Zs8 Kc21.1
      have K21 : Keep h0 T21.heap [] := K8.trans Kc21 (allS (Or.inr sz8) all0)
      have sf22 := Safe.keep Kc21 (sfS (Safe.arv hZ.alike Vr19 (by decide)) sf0) hCR.1 sf11
      have hCR := hCR.trans (CHr.keep Kc21 (sfS (Safe.arv hZ.alike Vr19 (by decide)) sf0) hCR.1)
      have hk := Nat.le_trans hk Kc21.1
      have F23 := own_stakeep F12 Kc21 (allS (own_nsV Vr19) all0)
      have F24 := own_stakeep F13 Kc21 (allS (own_nsV Vr19) all0)
      have F25 := F14.keep Kc21
      have F26 := F15.keep Kc21 (ninS ne9 nin0)
      have F27 := F16.keep Kc21 (ninS ne9 nin0)
      have F28 := Vl20.keep Kc21 (ninS ne10 nin0)
      have N21 := Fr.app N7 N21q
      obtain ⟨b29, g29⟩ : ∃ z, z = T21.heap.size := ⟨_, rfl⟩
      obtain ⟨T29, h29, X29, e29, E29, A29, D29, -, st29⟩ := newO X21 hx hZ hown (wd hw 52 rfl) (wd hw 3 rfl) (wd hw 2 rfl) rfl (g := (mkF m 231 #[.val (.int p0_0), .val (.int p0_1), .val (.int p0_2), .val (.int p0_3), .val (.int p0_4), .val (.int p0_5), .val (.int (0 : Int32)), .val (.int (0 : Int32)), .unset, .val (.ref b4), .val (.int (16 : Int32)), .val (.int (16 : Int32)), .val (.ref b8)] [])) rfl (hb hby at_231) (by decide) (by decide)
      rw [← g29] at A29 D29 st29
      have ne30 : b4 ≠ b29 := Nat.ne_of_lt (Nat.lt_of_lt_of_le F25.lt (Nat.le_of_eq g29.symm))
      have ne31 : d4 ≠ b29 := Nat.ne_of_lt (Nat.lt_of_lt_of_le F28.lt (Nat.le_of_eq g29.symm))
      have ne32 : b8 ≠ b29 := Nat.ne_of_lt (Nat.lt_of_lt_of_le G21_0.lt (Nat.le_of_eq g29.symm))
      have sfn29 := Safe.new (Z := Z) (EL := consts_1) (vm := T4.vm) (Nat.le_of_eq g29.symm)
      have sf33 := Safe.ext E29 hCR.1 sf22
      have sf34 := Safe.ext E29 hCR.1 sfn29
      have hCR := hCR.trans (CHr.ext E29 hCR.1)
      have hk := Nat.le_trans hk E29.1
      have gg29 : n0 ≤ b29 := Nat.le_trans Zs21 (Nat.le_of_eq g29.symm)
      have sz29 : h0.size ≤ b29 := Nat.le_trans K21.1 (Nat.le_of_eq g29.symm)
      have Zs29 : n0 ≤ h29.size := Nat.le_trans Zs21 E29.1
      have K29 : Keep h0 h29 [] := K21.ext E29
      have F35 := F23.ext E29
      have F36 := F24.ext E29
      have F37 := F25.ext E29
      have F38 := F26.ext E29
      have F39 := F27.ext E29
      have F40 := F28.ext E29
      have F41 := G21_0.ext E29
      have F42 : Fld Z h29 b29 "java/lang/String" "value" "[B" .null := D29 (Or.inr (wd hw 5 rfl)) (ty := (.array .byte)) (by decide)
      have F43 : Fld Z h29 b29 "java/lang/String" "coder" "B" (.int (0 : Int32)) := D29 (Or.inr (wd hw 6 rfl)) (ty := .byte) (by decide)
      obtain ⟨_, _, ⟨T44, L44, k44, n44⟩, -, X44, ⟨Lc44, hQ44, l44, y44, z44⟩, st44⟩ := X29.specialBack hx (y := (⟨"java/lang/String", "<init>", "([C)V"⟩ : MethodName)) rfl hown (mvT hZ (wd hw 53 rfl)) (mvT hZ (wd hw 54 rfl)) (mvT hZ (wd hw 55 rfl)) (by decide) (StrChars.Road.backV (W := 1) hZ (fun d hd => hw d (own_sub_backV d hd)) (kI := 4) (wd hw 3 rfl) (cs := cb_21) (bs := cb_21.map (fun c => c.toInt8.toInt32)) (n := 16) gg29 Zs29 A29 F42 F43 F41 F35 hcs (P21_0.trans (by decide)) rfl (by decide) (by decide) P21_1 rfl (by decide) (by decide)) (g := (mkF m 237 #[.val (.int p0_0), .val (.int p0_1), .val (.int p0_2), .val (.int p0_3), .val (.int p0_4), .val (.int p0_5), .val (.int (0 : Int32)), .val (.int (0 : Int32)), .unset, .val (.ref b4), .val (.int (16 : Int32)), .val (.int (16 : Int32)), .val (.ref b8)] [(.ref b8), (.ref b29), (.ref b29)])) rfl (by rw [hml]; rfl) (Steps.refl _) (a := b29) (argsL := [(.ref b8)]) (rest := [(.ref b29)]) (lenOf pd_13 rfl) rfl (by show 2 * 0 + _ ≤ _; exact Nat.le_of_eq rfl) (hb hby at_237) (fun _ _ => ⟨rfl, e29, (by decide : 4 + 1 ≤ _), (by decide : 88 + 16 ≤ _)⟩)
      dsimp only [Pt.U, Pt.locs, Pt.cells, Pt.slots] at X44 l44 y44 z44 st44 hQ44
      rw [l44, y44, z44] at X44
      obtain ⟨rfl, N44q, Kc44, G44_0, G44_1, t44, kb44, ggt44, szt44, nex44, G44_2, G44_3⟩ := hQ44
      have szz44 : h0.size ≤ t44 := Nat.le_trans K29.1 szt44
      have Zs44 : n0 ≤ T44.heap.size := Nat.le_trans Zs29 Kc44.1
      have K44 : Keep h0 T44.heap [] := K29.trans Kc44 (allS (Or.inr sz29) all0)
      have sf45 := Safe.keep Kc44 (sfS sf34 sf0) hCR.1 sf33
      have sf46 := Safe.keep Kc44 (sfS sf34 sf0) hCR.1 sf34
      have hCR := hCR.trans (CHr.keep Kc44 (sfS sf34 sf0) hCR.1)
      have hk := Nat.le_trans hk Kc44.1
      have F47 := own_stakeep F35 Kc44 (allS (own_nsE A29) all0)
      have F48 := own_stakeep F36 Kc44 (allS (own_nsE A29) all0)
      have F49 := F37.keep Kc44
      have F50 := F38.keep Kc44 (ninS ne30 nin0)
      have F51 := F39.keep Kc44 (ninS ne30 nin0)
      have F52 := F40.keep Kc44 (ninS ne31 nin0)
      have F53 := F41.keep Kc44 (ninS ne32 nin0)
      have N44 := Fr.app N21 N44q
      have k54 : ∀ t, Steps p.tables e below (T44.setTop (mkF m 242 #[.val (.int p0_0), .val (.int p0_1), .val (.int p0_2), .val (.int p0_3), .val (.int p0_4), .val (.int p0_5), .val (.int (0 : Int32)), .val (.int (0 : Int32)), .val (.ref b29), .val (.ref b4), .val (.int (16 : Int32)), .val (.int (16 : Int32)), .val (.ref b8)] [])) t → Steps p.tables e below (s₁.setTop (entryFrame m #[(.int p0_0), (.int p0_1), (.int p0_2), (.int p0_3), (.int p0_4), (.int p0_5)] maxLocals)) t := by
        intro t k
        refine k18 t ?_
        refine st21 _ ?_
        refine XS.iload X21.here hx rfl (hb hby at_208) rfl ?_
        refine XS.iconst X21.here hx rfl (hb hby at_210) ?_
        refine XS.icmpYes X21.here hx rfl (pc0 := 211) (pc' := 231) rfl (hb hby at_211) rfl (feq (by decide : ¬ ((0 : Int32) = (1 : Int32)))).2 (by decide) (by decide) ?_
        refine st29 _ ?_
        refine XS.dup X29.here hx rfl (hb hby at_234) rfl rfl ?_
        refine XS.aload X29.here hx rfl (hb hby at_235) rfl rfl ?_
        refine st44.trans ?_
        refine XS.astore X44.here hx rfl (hb hby at_240) rfl rfl (l' := #[.val (.int p0_0), .val (.int p0_1), .val (.int p0_2), .val (.int p0_3), .val (.int p0_4), .val (.int p0_5), .val (.int (0 : Int32)), .val (.int (0 : Int32)), .val (.ref b29), .val (.ref b4), .val (.int (16 : Int32)), .val (.int (16 : Int32)), .val (.ref b8)]) rfl ?_
        exact k
      obtain ⟨t_, o_, ss_, s2_, s3_, v_, L_, hv_, hq_, hf_⟩ := sgs1 hw hEL wS h0 p0_0 p0_1 p0_2 p0_3 p0_4 p0_5 (0 : Int32) (0 : Int32) b29 (.val (.int (16 : Int32))) (.val (.ref b8)) b4 (.val (.int (16 : Int32))) u_EMPTY u__VALUES cl_u__VALUES u_RESPONSE_TIME u_THROUGHPUT u_COST u_RESPONSE_TIME_column u_RESPONSE_TIME_column_value cl_u_RESPONSE_TIME_column_value u_THROUGHPUT_column u_THROUGHPUT_column_value cl_u_THROUGHPUT_column_value u_COST_column u_COST_column_value cl_u_COST_column_value cs t44 kb44 (16 : Int32) cb_21 T44.heap n0 Zs44 S_EMPTY E_u_EMPTY F_u_EMPTY_value S__VALUES E_u__VALUES S_RESPONSE_TIME E_u_RESPONSE_TIME S_THROUGHPUT E_u_THROUGHPUT S_COST E_u_COST F_u_RESPONSE_TIME_column E_u_RESPONSE_TIME_column F_u_RESPONSE_TIME_column_coder F_u_RESPONSE_TIME_column_value F_u_THROUGHPUT_column E_u_THROUGHPUT_column F_u_THROUGHPUT_column_coder F_u_THROUGHPUT_column_value F_u_COST_column E_u_COST_column F_u_COST_column_coder F_u_COST_column_value V_u__VALUES V_u_RESPONSE_TIME_column_value V_u_THROUGHPUT_column_value V_u_COST_column_value K44 F47 G44_0 G44_2 G44_1 G44_3 hcs (Or.inr ⟨_, rfl, rfl⟩) (by rw [P21_0]; rfl) P21_1 (by rw [P21_0]; decide) (X44.more (by decide) (by decide)) hx hZ hby hml hown Bd.returns (by first | assumption | exact BodyLoose.notSynchronized (by assumption) | exact Body.notSynchronized (by assumption)) rfl N44 hh hS hk hCR
      exact ⟨t_, o_, k54 _ ss_, s2_, s3_, v_, L_, hv_, hq_, hf_⟩
    · skip
      obtain ⟨b55, T55, h55, k55, d55, kb55, X55, e55, E55, hS, hk, hZ, hown, Ex55, Fc55, Fv55, V55, lta55, ltb55, hC55, hL55, hsf55, st55⟩ := ldcCH X0 hx hZ hown (wd hw 1 rfl) wS e0 hS hk hEL (List.mem_of_getElem? (i := 0) rfl) hCR.1 (vs := [(.int (114 : Int32)), (.int (101 : Int32)), (.int (115 : Int32)), (.int (112 : Int32)), (.int (111 : Int32)), (.int (110 : Int32)), (.int (115 : Int32)), (.int (101 : Int32)), (.int (95 : Int32)), (.int (116 : Int32)), (.int (105 : Int32)), (.int (109 : Int32)), (.int (101 : Int32)), (.int (95 : Int32)), (.int (109 : Int32)), (.int (115 : Int32))]) (z := (16 : Int32)) ⟨by decide, rfl⟩ (by decide) rfl (g := (mkF m 119 #[.val (.int p0_0), .val (.int p0_1), .val (.int p0_2), .val (.int p0_3), .val (.int p0_4), .val (.int p0_5), .val (.int (0 : Int32)), .val (.int (1 : Int32)), .unset, .unset, .unset, .unset, .unset] [])) rfl (hb hby at_119) (n := 64) (by decide) (by decide) (by decide) (by decide)
      have hCR := hCR.trans hC55
      have Zs55 : n0 ≤ h55.size := Nat.le_trans Z0 E55.1
      have K55 : Keep h0 h55 [] := (Keep.refl h0 []).ext E55
      have F56 := Sc.ext E55
      have F57 := Sf.ext E55
      obtain ⟨cq58, kq58, q58a, q58b, q58c⟩ := isOf hZ e55 Ex55
      obtain ⟨_, _, ⟨T58, L58, k58, n58⟩, -, X58, ⟨Lc58, hQ58, l58, y58, z58⟩, st58⟩ := X55.virtualBack hx (y := (⟨"java/lang/String", "length", "()I"⟩ : MethodName)) (z := (⟨"java/lang/String", "length", "()I"⟩ : MethodName)) hown (mvT hZ (wd hw 9 rfl)) (mvT hZ (wd hw 10 rfl)) (notFace_of_selects (args := #[]) (mvT hZ (wd hw 12 rfl))) (mvT hZ (wd hw 12 rfl)) (mvT hZ (wd hw 11 rfl)) (by decide) (StrChars.Road.lenW (W := 0) hZ (fun d hd => hw d (own_sub_lenW d hd)) (kI := 4) (wd hw 3 rfl) (cs := own_LR) Ex55 Fv55 Fc55 V55 own_codR own_bdR F56 hcs (by decide) (by decide) (by decide)) q58a q58c (g := (mkF m 141 #[.val (.int p0_0), .val (.int p0_1), .val (.int p0_2), .val (.int p0_3), .val (.int p0_4), .val (.int p0_5), .val (.int (0 : Int32)), .val (.int (1 : Int32)), .unset, .val (.ref b55), .unset, .unset, .unset] [(.ref b55)])) rfl (by rw [hml]; rfl) (Steps.refl _) (argsL := []) (rest := []) (lenOf pd_1 rfl) rfl (by show 2 * 0 + _ ≤ _; exact Nat.le_of_eq rfl) (hb hby at_141) (fun _ _ => ⟨rfl, e55, (by decide : 2 + 0 ≤ _), (by decide : 68 + 0 ≤ _)⟩)
      dsimp only [Pt.U, Pt.locs, Pt.cells, Pt.slots] at X58 l58 y58 z58 st58 hQ58
      rw [l58, y58, z58] at X58
      obtain ⟨rfl, rfl, eh58⟩ := hQ58
      have N58 := Fr.app N0 (Fr.nil n0)
      obtain ⟨b59, g59⟩ : ∃ z, z = h55.size := ⟨_, rfl⟩
      obtain ⟨T59, h59, k59, X59, e59, E59, A59, st59⟩ := newP X58 hx hZ (wd hw 22 rfl) eh58 (g := (mkF m 190 #[.val (.int p0_0), .val (.int p0_1), .val (.int p0_2), .val (.int p0_3), .val (.int p0_4), .val (.int p0_5), .val (.int (0 : Int32)), .val (.int (1 : Int32)), .unset, .val (.ref b55), .val (.int (16 : Int32)), .val (.int (16 : Int32)), .unset] [(.int (16 : Int32))])) rfl (hb hby at_190) rfl (by decide) (cap := 16) (by decide) (by decide) (by decide) (by decide)
      rw [← g59] at A59 st59
      have ne60 : b55 ≠ b59 := Nat.ne_of_lt (Nat.lt_of_lt_of_le Ex55.lt (Nat.le_of_eq g59.symm))
      have ne61 : d55 ≠ b59 := Nat.ne_of_lt (Nat.lt_of_lt_of_le V55.lt (Nat.le_of_eq g59.symm))
      have sfn59 := Safe.new (Z := Z) (EL := consts_1) (vm := T55.vm) (Nat.le_of_eq g59.symm)
      have sf62 := Safe.ext E59 hCR.1 sfn59
      have hCR := hCR.trans (CHr.ext E59 hCR.1)
      have hk := Nat.le_trans hk E59.1
      have gg59 : n0 ≤ b59 := Nat.le_trans Zs55 (Nat.le_of_eq g59.symm)
      have sz59 : h0.size ≤ b59 := Nat.le_trans K55.1 (Nat.le_of_eq g59.symm)
      have Zs59 : n0 ≤ h59.size := Nat.le_trans Zs55 E59.1
      have K59 : Keep h0 h59 [] := K55.ext E59
      have F63 := F56.ext E59
      have F64 := F57.ext E59
      have F65 := Ex55.ext E59
      have F66 := Fc55.ext E59
      have F67 := Fv55.ext E59
      have F68 := V55.ext E59
      have V59 : Arv Z h59 b59 k59 .char (16 : Int32) [(.int (0 : Int32)), (.int (0 : Int32)), (.int (0 : Int32)), (.int (0 : Int32)), (.int (0 : Int32)), (.int (0 : Int32)), (.int (0 : Int32)), (.int (0 : Int32)), (.int (0 : Int32)), (.int (0 : Int32)), (.int (0 : Int32)), (.int (0 : Int32)), (.int (0 : Int32)), (.int (0 : Int32)), (.int (0 : Int32)), (.int (0 : Int32))] (.int (0 : Int32)) := (Arv.new A59 (by decide)).pad (pad_rep [] (.int (0 : Int32)) 16)
      have k69 : ∀ t, Steps p.tables e below (T59.setTop (mkF m 205 #[.val (.int p0_0), .val (.int p0_1), .val (.int p0_2), .val (.int p0_3), .val (.int p0_4), .val (.int p0_5), .val (.int (0 : Int32)), .val (.int (1 : Int32)), .unset, .val (.ref b55), .val (.int (16 : Int32)), .val (.int (16 : Int32)), .val (.ref b59)] [(.int (p0_4 &&& (255 : Int32)).toUInt32.toUInt16.toUInt32.toInt32), (.ref b55), (.ref b59)])) t → Steps p.tables e below (s₁.setTop (entryFrame m #[(.int p0_0), (.int p0_1), (.int p0_2), (.int p0_3), (.int p0_4), (.int p0_5)] maxLocals)) t := by
        intro t k
        refine k1 t ?_
        refine XS.iload X0.here hx rfl (hb hby at_16) rfl ?_
        refine XS.iconst X0.here hx rfl (hb hby at_18) ?_
        refine XS.icmpYes X0.here hx rfl (pc0 := 19) (pc' := 114) rfl (hb hby at_19) rfl (feq (by decide : ¬ ((0 : Int32) = (3 : Int32)))).2 (by decide) (by decide) ?_
        refine XS.iload X0.here hx rfl (hb hby at_114) rfl ?_
        refine XS.ifNo X0.here hx rfl (hb hby at_116) rfl ((if0 _ _).trans (teq (by decide : (0 : Int32) = (0 : Int32))).2) ?_
        show Steps p.tables e below (s₁.setTop (mkF m 119 #[.val (.int p0_0), .val (.int p0_1), .val (.int p0_2), .val (.int p0_3), .val (.int p0_4), .val (.int p0_5), .val (.int (0 : Int32)), .val (.int (1 : Int32)), .unset, .unset, .unset, .unset, .unset] [])) _
        refine st55 _ ?_
        refine XS.goto X55.here hx rfl (pc0 := 121) (pc' := 137) rfl (hb hby at_121) (by decide) (by decide) ?_
        refine XS.astore X55.here hx rfl (hb hby at_137) rfl rfl (l' := #[.val (.int p0_0), .val (.int p0_1), .val (.int p0_2), .val (.int p0_3), .val (.int p0_4), .val (.int p0_5), .val (.int (0 : Int32)), .val (.int (1 : Int32)), .unset, .val (.ref b55), .unset, .unset, .unset]) rfl ?_
        refine XS.aload X55.here hx rfl (hb hby at_139) rfl rfl ?_
        refine st58.trans ?_
        refine XS.istore X58.here hx rfl (hb hby at_144) rfl (l' := #[.val (.int p0_0), .val (.int p0_1), .val (.int p0_2), .val (.int p0_3), .val (.int p0_4), .val (.int p0_5), .val (.int (0 : Int32)), .val (.int (1 : Int32)), .unset, .val (.ref b55), .val (.int (16 : Int32)), .unset, .unset]) rfl ?_
        refine XS.iload X58.here hx rfl (hb hby at_146) rfl ?_
        refine XS.iconst X58.here hx rfl (hb hby at_148) ?_
        refine XS.icmpYes X58.here hx rfl (pc0 := 149) (pc' := 158) rfl (hb hby at_149) rfl (feq (by decide : ¬ ((1 : Int32) = (4 : Int32)))).2 (by decide) (by decide) ?_
        refine XS.iload X58.here hx rfl (hb hby at_158) rfl ?_
        refine XS.iconst X58.here hx rfl (hb hby at_160) ?_
        refine XS.icmpYes X58.here hx rfl (pc0 := 161) (pc' := 171) rfl (hb hby at_161) rfl (feq (by decide : ¬ ((1 : Int32) = (2 : Int32)))).2 (by decide) (by decide) ?_
        refine XS.iload X58.here hx rfl (hb hby at_171) rfl ?_
        refine XS.iconst X58.here hx rfl (hb hby at_173) ?_
        refine XS.icmpYes X58.here hx rfl (pc0 := 174) (pc' := 184) rfl (hb hby at_174) rfl (feq (by decide : ¬ ((1 : Int32) = (3 : Int32)))).2 (by decide) (by decide) ?_
        refine XS.iload X58.here hx rfl (hb hby at_184) rfl ?_
        refine XS.istore X58.here hx rfl (hb hby at_186) rfl (l' := #[.val (.int p0_0), .val (.int p0_1), .val (.int p0_2), .val (.int p0_3), .val (.int p0_4), .val (.int p0_5), .val (.int (0 : Int32)), .val (.int (1 : Int32)), .unset, .val (.ref b55), .val (.int (16 : Int32)), .val (.int (16 : Int32)), .unset]) rfl ?_
        refine XS.iload X58.here hx rfl (hb hby at_188) rfl ?_
        show Steps p.tables e below (T58.setTop (mkF m 190 #[.val (.int p0_0), .val (.int p0_1), .val (.int p0_2), .val (.int p0_3), .val (.int p0_4), .val (.int p0_5), .val (.int (0 : Int32)), .val (.int (1 : Int32)), .unset, .val (.ref b55), .val (.int (16 : Int32)), .val (.int (16 : Int32)), .unset] [(.int (16 : Int32))])) _
        refine st59 _ ?_
        refine XS.astore X59.here hx rfl (hb hby at_192) rfl rfl (l' := #[.val (.int p0_0), .val (.int p0_1), .val (.int p0_2), .val (.int p0_3), .val (.int p0_4), .val (.int p0_5), .val (.int (0 : Int32)), .val (.int (1 : Int32)), .unset, .val (.ref b55), .val (.int (16 : Int32)), .val (.int (16 : Int32)), .val (.ref b59)]) rfl ?_
        refine XS.aload X59.here hx rfl (hb hby at_194) rfl rfl ?_
        refine XS.aload X59.here hx rfl (hb hby at_196) rfl rfl ?_
        refine XS.iload X59.here hx rfl (hb hby at_198) rfl ?_
        refine XS.sipush X59.here hx rfl (hb hby at_200) ?_
        refine XS.iand X59.here hx rfl (hb hby at_203) rfl ?_
        refine XS.i2c X59.here hx rfl (hb hby at_204) rfl ?_
        exact k
      rw [show (p0_4 &&& (255 : Int32)).toUInt32.toUInt16.toUInt32.toInt32 = (p0_4 &&& (255 : Int32)) from own_i2c _ (own_m255 _)] at k69
      have Vr70 : Arv Z h59 b59 k59 .char (16 : Int32) (List.map Value.int (List.replicate 16 (0 : Int32))) (.int (0 : Int32)) := V59
      have Vl71 : Arv Z h59 d55 kb55 .byte (Int32.ofNat own_LR.length) (List.map Value.int (List.map (fun c => c.toInt8.toInt32) own_LR)) (.int (0 : Int32)) := own_lsR ▸ F68
      obtain ⟨_, _, ⟨T72, L72, k72, n72⟩, -, X72, ⟨Lc72, hQ72, l72, y72, z72⟩, st72⟩ := Jvm.LawKit.callS X59 hx (y := (⟨"com/example/leanweave/leanweave/QosMeasureOfColumnPinLaw", "fill", "([CLjava/lang/String;C)V"⟩ : MethodName)) hown (mvT hZ (wd hw 23 rfl)) (mvT hZ (wd hw 24 rfl)) (mvT hZ (wd hw 25 rfl)) (mvT hZ (wd hw 26 rfl)) (by decide) (backOf (W := 0) (rm4 l Z a0 hw [] b59 b55 (p0_4 &&& (255 : Int32)) k59 (16 : Int32) (List.replicate 16 (0 : Int32)) d55 kb55 own_LR cs fm h59 n0 Zs59 Vr70 F65 F67 F66 Vl71 F63 F64 (by decide : (List.replicate 16 (0 : Int32)).length = (16 : Int32).toNatClampNeg) (by decide : ∀ c ∈ (List.replicate 16 (0 : Int32)), ¬ c < 0 ∧ ¬ (255 : Int32) < c) (by decide : ∀ c ∈ own_LR, ¬ c < 0 ∧ ¬ (255 : Int32) < c) (by decide : own_LR.length ≤ 4000) hcs hfm (own_m255 _).1 (own_m255 _).2 ne60 ne61 gg59) hZ (wd hw 26 rfl) (wd hw 25 rfl) (by decide) (by decide)) (g := (mkF m 205 #[.val (.int p0_0), .val (.int p0_1), .val (.int p0_2), .val (.int p0_3), .val (.int p0_4), .val (.int p0_5), .val (.int (0 : Int32)), .val (.int (1 : Int32)), .unset, .val (.ref b55), .val (.int (16 : Int32)), .val (.int (16 : Int32)), .val (.ref b59)] [(.int (p0_4 &&& (255 : Int32))), (.ref b55), (.ref b59)])) rfl (by rw [hml]; rfl) (argsL := [(.ref b59), (.ref b55), (.int (p0_4 &&& (255 : Int32)))]) (rest := []) (lenOf pd_12 rfl) rfl (by show 2 * 0 + _ ≤ _; exact Nat.le_of_eq rfl) (hb hby at_205) (fun _ _ => ⟨rfl, e59, (by decide : 3 + 0 ≤ _), (by decide : 84 + 0 ≤ _)⟩)
      dsimp only [Pt.U, Pt.locs, Pt.cells, Pt.slots] at X72 l72 y72 z72 st72 hQ72
      rw [l72, y72, z72] at X72
      obtain ⟨cb_72, rfl, N72q, Kc72, G72_0, P72_0, P72_1⟩ := hQ72
      have Zs72 : n0 ≤ T72.heap.size := Nat.le_trans Zs59 Kc72.1
      have K72 : Keep h0 T72.heap [] := K59.trans Kc72 (allS (Or.inr sz59) all0)
      have sf73 := Safe.keep Kc72 (sfS (Safe.arv hZ.alike Vr70 (by decide)) sf0) hCR.1 sf62
      have hCR := hCR.trans (CHr.keep Kc72 (sfS (Safe.arv hZ.alike Vr70 (by decide)) sf0) hCR.1)
      have hk := Nat.le_trans hk Kc72.1
      have F74 := own_stakeep F63 Kc72 (allS (own_nsV Vr70) all0)
      have F75 := own_stakeep F64 Kc72 (allS (own_nsV Vr70) all0)
      have F76 := F65.keep Kc72
      have F77 := F66.keep Kc72 (ninS ne60 nin0)
      have F78 := F67.keep Kc72 (ninS ne60 nin0)
      have F79 := Vl71.keep Kc72 (ninS ne61 nin0)
      have N72 := Fr.app N58 N72q
      have k80 : ∀ t, Steps p.tables e below (T72.setTop (mkF m 223 #[.val (.int p0_0), .val (.int p0_1), .val (.int p0_2), .val (.int p0_3), .val (.int p0_4), .val (.int p0_5), .val (.int (0 : Int32)), .val (.int (1 : Int32)), .unset, .val (.ref b55), .val (.int (16 : Int32)), .val (.int (16 : Int32)), .val (.ref b59)] [(.int ((p0_2 &&& (2147483647 : Int32)) % (16 : Int32))), (.ref b59)])) t → Steps p.tables e below (s₁.setTop (entryFrame m #[(.int p0_0), (.int p0_1), (.int p0_2), (.int p0_3), (.int p0_4), (.int p0_5)] maxLocals)) t := by
        intro t k
        refine k69 t ?_
        refine st72 _ ?_
        refine XS.iload X72.here hx rfl (hb hby at_208) rfl ?_
        refine XS.iconst X72.here hx rfl (hb hby at_210) ?_
        refine XS.icmpNo X72.here hx rfl (hb hby at_211) rfl (teq (by decide : (1 : Int32) = (1 : Int32))).2 ?_
        refine XS.aload X72.here hx rfl (hb hby at_214) rfl rfl ?_
        refine XS.iloadN X72.here hx rfl (hb hby at_216) rfl ?_
        refine X72.ldcInt hx hown (mvT hZ (hw _ (List.mem_of_getElem? (i := 0) rfl))) (g := (mkF m 217 #[.val (.int p0_0), .val (.int p0_1), .val (.int p0_2), .val (.int p0_3), .val (.int p0_4), .val (.int p0_5), .val (.int (0 : Int32)), .val (.int (1 : Int32)), .unset, .val (.ref b55), .val (.int (16 : Int32)), .val (.int (16 : Int32)), .val (.ref b59)] [(.int p0_2), (.ref b59)])) rfl (hb hby at_217) _ ?_
        refine XS.iand X72.here hx rfl (hb hby at_219) rfl ?_
        refine XS.iload X72.here hx rfl (hb hby at_220) rfl ?_
        refine iremM X72 hx rfl (hb hby at_222) rfl (by decide) ?_
        exact k
      obtain ⟨zj, hzj⟩ : ∃ z, z = ((p0_2 &&& (2147483647 : Int32)) % (16 : Int32)) := ⟨_, rfl⟩
      rw [← hzj] at k80
      have hj0 := own_ji16 p0_2
      rw [← hzj] at hj0
      have k81 : ∀ t, Steps p.tables e below (T72.setTop (mkF m 230 #[.val (.int p0_0), .val (.int p0_1), .val (.int p0_2), .val (.int p0_3), .val (.int p0_4), .val (.int p0_5), .val (.int (0 : Int32)), .val (.int (1 : Int32)), .unset, .val (.ref b55), .val (.int (16 : Int32)), .val (.int (16 : Int32)), .val (.ref b59)] [(.int (p0_5 &&& (255 : Int32)).toUInt32.toUInt16.toUInt32.toInt32), (.int zj), (.ref b59)])) t → Steps p.tables e below (s₁.setTop (entryFrame m #[(.int p0_0), (.int p0_1), (.int p0_2), (.int p0_3), (.int p0_4), (.int p0_5)] maxLocals)) t := by
        intro t k
        refine k80 t ?_
        show Steps p.tables e below (T72.setTop (mkF m 223 #[.val (.int p0_0), .val (.int p0_1), .val (.int p0_2), .val (.int p0_3), .val (.int p0_4), .val (.int p0_5), .val (.int (0 : Int32)), .val (.int (1 : Int32)), .unset, .val (.ref b55), .val (.int (16 : Int32)), .val (.int (16 : Int32)), .val (.ref b59)] [(.int zj), (.ref b59)])) _
        refine XS.iload X72.here hx rfl (hb hby at_223) rfl ?_
        refine XS.sipush X72.here hx rfl (hb hby at_225) ?_
        refine XS.iand X72.here hx rfl (hb hby at_228) rfl ?_
        refine XS.i2c X72.here hx rfl (hb hby at_229) rfl ?_
        exact k
      rw [show (p0_5 &&& (255 : Int32)).toUInt32.toUInt16.toUInt32.toInt32 = (p0_5 &&& (255 : Int32)) from own_i2c _ (own_m255 _)] at k81
      obtain ⟨cl82, Ar82, qc82, Sz82, Nn82, Hh82, Gg82⟩ := (id G72_0)
      have hin82 : ¬ (zj < 0 ∨ cl82.slots.size ≤ (zj).toNatClampNeg) := inb_of Sz82 ⟨hj0.1, hj0.2⟩
      obtain ⟨T82, h82, X82, e82, W82, st82⟩ := stC X72 hx hZ rfl Ar82 (j := zj) hin82 (g := (mkF m 230 #[.val (.int p0_0), .val (.int p0_1), .val (.int p0_2), .val (.int p0_3), .val (.int p0_4), .val (.int p0_5), .val (.int (0 : Int32)), .val (.int (1 : Int32)), .unset, .val (.ref b55), .val (.int (16 : Int32)), .val (.int (16 : Int32)), .val (.ref b59)] [(.int (p0_5 &&& (255 : Int32))), (.int zj), (.ref b59)])) rfl rfl (hb hby at_230)
      have sf83 := Safe.wr W82 (Safe.arv hZ.alike G72_0 (by decide)) hCR.1 sf73
      have hCR := hCR.trans (CHr.wr W82 (Safe.arv hZ.alike G72_0 (by decide)) hCR.1)
      have hk := Nat.le_trans hk (Nat.le_of_eq W82.size.symm)
      have F84 := F74.wr W82
      have F85 := F75.wr W82
      have F86 := F76.wr W82
      have F87 := F77.other W82 (Or.inl ne60)
      have F88 := F78.other W82 (Or.inl ne60)
      have F89 := F79.other W82 ne61
      have V82 := own_setL Ar82 qc82 Sz82 Nn82 Hh82 Gg82 (own_m255 _) W82 P72_0 hj0.1 hj0.2
      have N82 := Fr.snoc X82 N72 gg59
      have K82 : Keep h0 h82 [] := K72.wr W82 (Or.inr sz59)
      have Zs82 : n0 ≤ h82.size := by rw [W82.size]; exact Zs72
      obtain ⟨lq91, hd91⟩ : ∃ z, z = (cb_72.set (zj).toNatClampNeg (p0_5 &&& (255 : Int32))) := ⟨_, rfl⟩
      rw [← hd91] at V82
      have hle91 : lq91.length = (16 : Int32).toNatClampNeg := by rw [hd91]; exact own_setlen P72_0
      have hbe91 : ∀ c ∈ lq91, ¬ c < 0 ∧ ¬ (255 : Int32) < c := by rw [hd91]; exact own_setall P72_1 (own_m255 _)
      obtain ⟨b92, g92⟩ : ∃ z, z = h82.size := ⟨_, rfl⟩
      obtain ⟨T92, h92, X92, e92, E92, A92, D92, -, st92⟩ := newO X82 hx hZ hown (wd hw 52 rfl) (wd hw 3 rfl) (wd hw 2 rfl) e82 (g := (mkF m 231 #[.val (.int p0_0), .val (.int p0_1), .val (.int p0_2), .val (.int p0_3), .val (.int p0_4), .val (.int p0_5), .val (.int (0 : Int32)), .val (.int (1 : Int32)), .unset, .val (.ref b55), .val (.int (16 : Int32)), .val (.int (16 : Int32)), .val (.ref b59)] [])) rfl (hb hby at_231) (by decide) (by decide)
      rw [← g92] at A92 D92 st92
      have ne93 : b55 ≠ b92 := Nat.ne_of_lt (Nat.lt_of_lt_of_le F86.lt (Nat.le_of_eq g92.symm))
      have ne94 : d55 ≠ b92 := Nat.ne_of_lt (Nat.lt_of_lt_of_le F89.lt (Nat.le_of_eq g92.symm))
      have ne95 : b59 ≠ b92 := Nat.ne_of_lt (Nat.lt_of_lt_of_le V82.lt (Nat.le_of_eq g92.symm))
      have sfn92 := Safe.new (Z := Z) (EL := consts_1) (vm := T55.vm) (Nat.le_of_eq g92.symm)
      have sf96 := Safe.ext E92 hCR.1 sf83
      have sf97 := Safe.ext E92 hCR.1 sfn92
      have hCR := hCR.trans (CHr.ext E92 hCR.1)
      have hk := Nat.le_trans hk E92.1
      have gg92 : n0 ≤ b92 := Nat.le_trans Zs82 (Nat.le_of_eq g92.symm)
      have sz92 : h0.size ≤ b92 := Nat.le_trans K82.1 (Nat.le_of_eq g92.symm)
      have Zs92 : n0 ≤ h92.size := Nat.le_trans Zs82 E92.1
      have K92 : Keep h0 h92 [] := K82.ext E92
      have F98 := F84.ext E92
      have F99 := F85.ext E92
      have F100 := F86.ext E92
      have F101 := F87.ext E92
      have F102 := F88.ext E92
      have F103 := F89.ext E92
      have F104 := V82.ext E92
      have F105 : Fld Z h92 b92 "java/lang/String" "value" "[B" .null := D92 (Or.inr (wd hw 5 rfl)) (ty := (.array .byte)) (by decide)
      have F106 : Fld Z h92 b92 "java/lang/String" "coder" "B" (.int (0 : Int32)) := D92 (Or.inr (wd hw 6 rfl)) (ty := .byte) (by decide)
      obtain ⟨_, _, ⟨T107, L107, k107, n107⟩, -, X107, ⟨Lc107, hQ107, l107, y107, z107⟩, st107⟩ := X92.specialBack hx (y := (⟨"java/lang/String", "<init>", "([C)V"⟩ : MethodName)) rfl hown (mvT hZ (wd hw 53 rfl)) (mvT hZ (wd hw 54 rfl)) (mvT hZ (wd hw 55 rfl)) (by decide) (StrChars.Road.backV (W := 1) hZ (fun d hd => hw d (own_sub_backV d hd)) (kI := 4) (wd hw 3 rfl) (cs := lq91) (bs := lq91.map (fun c => c.toInt8.toInt32)) (n := 16) gg92 Zs92 A92 F105 F106 F104 F98 hcs (hle91.trans (by decide)) rfl (by decide) (by decide) hbe91 rfl (by decide) (by decide)) (g := (mkF m 237 #[.val (.int p0_0), .val (.int p0_1), .val (.int p0_2), .val (.int p0_3), .val (.int p0_4), .val (.int p0_5), .val (.int (0 : Int32)), .val (.int (1 : Int32)), .unset, .val (.ref b55), .val (.int (16 : Int32)), .val (.int (16 : Int32)), .val (.ref b59)] [(.ref b59), (.ref b92), (.ref b92)])) rfl (by rw [hml]; rfl) (Steps.refl _) (a := b92) (argsL := [(.ref b59)]) (rest := [(.ref b92)]) (lenOf pd_13 rfl) rfl (by show 2 * 0 + _ ≤ _; exact Nat.le_of_eq rfl) (hb hby at_237) (fun _ _ => ⟨rfl, e92, (by decide : 4 + 1 ≤ _), (by decide : 88 + 16 ≤ _)⟩)
      dsimp only [Pt.U, Pt.locs, Pt.cells, Pt.slots] at X107 l107 y107 z107 st107 hQ107
      rw [l107, y107, z107] at X107
      obtain ⟨rfl, N107q, Kc107, G107_0, G107_1, t107, kb107, ggt107, szt107, nex107, G107_2, G107_3⟩ := hQ107
      have szz107 : h0.size ≤ t107 := Nat.le_trans K92.1 szt107
      have Zs107 : n0 ≤ T107.heap.size := Nat.le_trans Zs92 Kc107.1
      have K107 : Keep h0 T107.heap [] := K92.trans Kc107 (allS (Or.inr sz92) all0)
      have sf108 := Safe.keep Kc107 (sfS sf97 sf0) hCR.1 sf96
      have sf109 := Safe.keep Kc107 (sfS sf97 sf0) hCR.1 sf97
      have hCR := hCR.trans (CHr.keep Kc107 (sfS sf97 sf0) hCR.1)
      have hk := Nat.le_trans hk Kc107.1
      have F110 := own_stakeep F98 Kc107 (allS (own_nsE A92) all0)
      have F111 := own_stakeep F99 Kc107 (allS (own_nsE A92) all0)
      have F112 := F100.keep Kc107
      have F113 := F101.keep Kc107 (ninS ne93 nin0)
      have F114 := F102.keep Kc107 (ninS ne93 nin0)
      have F115 := F103.keep Kc107 (ninS ne94 nin0)
      have F116 := F104.keep Kc107 (ninS ne95 nin0)
      have N107 := Fr.app N82 N107q
      have k117 : ∀ t, Steps p.tables e below (T107.setTop (mkF m 242 #[.val (.int p0_0), .val (.int p0_1), .val (.int p0_2), .val (.int p0_3), .val (.int p0_4), .val (.int p0_5), .val (.int (0 : Int32)), .val (.int (1 : Int32)), .val (.ref b92), .val (.ref b55), .val (.int (16 : Int32)), .val (.int (16 : Int32)), .val (.ref b59)] [])) t → Steps p.tables e below (s₁.setTop (entryFrame m #[(.int p0_0), (.int p0_1), (.int p0_2), (.int p0_3), (.int p0_4), (.int p0_5)] maxLocals)) t := by
        intro t k
        refine k81 t ?_
        refine st82 _ ?_
        refine st92 _ ?_
        refine XS.dup X92.here hx rfl (hb hby at_234) rfl rfl ?_
        refine XS.aload X92.here hx rfl (hb hby at_235) rfl rfl ?_
        refine st107.trans ?_
        refine XS.astore X107.here hx rfl (hb hby at_240) rfl rfl (l' := #[.val (.int p0_0), .val (.int p0_1), .val (.int p0_2), .val (.int p0_3), .val (.int p0_4), .val (.int p0_5), .val (.int (0 : Int32)), .val (.int (1 : Int32)), .val (.ref b92), .val (.ref b55), .val (.int (16 : Int32)), .val (.int (16 : Int32)), .val (.ref b59)]) rfl ?_
        exact k
      obtain ⟨t_, o_, ss_, s2_, s3_, v_, L_, hv_, hq_, hf_⟩ := sgs1 hw hEL wS h0 p0_0 p0_1 p0_2 p0_3 p0_4 p0_5 (0 : Int32) (1 : Int32) b92 (.val (.int (16 : Int32))) (.val (.ref b59)) b55 (.val (.int (16 : Int32))) u_EMPTY u__VALUES cl_u__VALUES u_RESPONSE_TIME u_THROUGHPUT u_COST u_RESPONSE_TIME_column u_RESPONSE_TIME_column_value cl_u_RESPONSE_TIME_column_value u_THROUGHPUT_column u_THROUGHPUT_column_value cl_u_THROUGHPUT_column_value u_COST_column u_COST_column_value cl_u_COST_column_value cs t107 kb107 (16 : Int32) lq91 T107.heap n0 Zs107 S_EMPTY E_u_EMPTY F_u_EMPTY_value S__VALUES E_u__VALUES S_RESPONSE_TIME E_u_RESPONSE_TIME S_THROUGHPUT E_u_THROUGHPUT S_COST E_u_COST F_u_RESPONSE_TIME_column E_u_RESPONSE_TIME_column F_u_RESPONSE_TIME_column_coder F_u_RESPONSE_TIME_column_value F_u_THROUGHPUT_column E_u_THROUGHPUT_column F_u_THROUGHPUT_column_coder F_u_THROUGHPUT_column_value F_u_COST_column E_u_COST_column F_u_COST_column_coder F_u_COST_column_value V_u__VALUES V_u_RESPONSE_TIME_column_value V_u_THROUGHPUT_column_value V_u_COST_column_value K107 F110 G107_0 G107_2 G107_1 G107_3 hcs (Or.inr ⟨_, rfl, rfl⟩) (by rw [hle91]; rfl) hbe91 (by rw [hle91]; decide) (X107.more (by decide) (by decide)) hx hZ hby hml hown Bd.returns (by first | assumption | exact BodyLoose.notSynchronized (by assumption) | exact Body.notSynchronized (by assumption)) rfl N107 hh hS hk hCR
      exact ⟨t_, o_, k117 _ ss_, s2_, s3_, v_, L_, hv_, hq_, hf_⟩
    · skip
      obtain ⟨b118, T118, h118, k118, d118, kb118, X118, e118, E118, hS, hk, hZ, hown, Ex118, Fc118, Fv118, V118, lta118, ltb118, hC118, hL118, hsf118, st118⟩ := ldcCH X0 hx hZ hown (wd hw 1 rfl) wS e0 hS hk hEL (List.mem_of_getElem? (i := 0) rfl) hCR.1 (vs := [(.int (114 : Int32)), (.int (101 : Int32)), (.int (115 : Int32)), (.int (112 : Int32)), (.int (111 : Int32)), (.int (110 : Int32)), (.int (115 : Int32)), (.int (101 : Int32)), (.int (95 : Int32)), (.int (116 : Int32)), (.int (105 : Int32)), (.int (109 : Int32)), (.int (101 : Int32)), (.int (95 : Int32)), (.int (109 : Int32)), (.int (115 : Int32))]) (z := (16 : Int32)) ⟨by decide, rfl⟩ (by decide) rfl (g := (mkF m 119 #[.val (.int p0_0), .val (.int p0_1), .val (.int p0_2), .val (.int p0_3), .val (.int p0_4), .val (.int p0_5), .val (.int (0 : Int32)), .val (.int (2 : Int32)), .unset, .unset, .unset, .unset, .unset] [])) rfl (hb hby at_119) (n := 64) (by decide) (by decide) (by decide) (by decide)
      have hCR := hCR.trans hC118
      have Zs118 : n0 ≤ h118.size := Nat.le_trans Z0 E118.1
      have K118 : Keep h0 h118 [] := (Keep.refl h0 []).ext E118
      have F119 := Sc.ext E118
      have F120 := Sf.ext E118
      obtain ⟨cq121, kq121, q121a, q121b, q121c⟩ := isOf hZ e118 Ex118
      obtain ⟨_, _, ⟨T121, L121, k121, n121⟩, -, X121, ⟨Lc121, hQ121, l121, y121, z121⟩, st121⟩ := X118.virtualBack hx (y := (⟨"java/lang/String", "length", "()I"⟩ : MethodName)) (z := (⟨"java/lang/String", "length", "()I"⟩ : MethodName)) hown (mvT hZ (wd hw 9 rfl)) (mvT hZ (wd hw 10 rfl)) (notFace_of_selects (args := #[]) (mvT hZ (wd hw 12 rfl))) (mvT hZ (wd hw 12 rfl)) (mvT hZ (wd hw 11 rfl)) (by decide) (StrChars.Road.lenW (W := 0) hZ (fun d hd => hw d (own_sub_lenW d hd)) (kI := 4) (wd hw 3 rfl) (cs := own_LR) Ex118 Fv118 Fc118 V118 own_codR own_bdR F119 hcs (by decide) (by decide) (by decide)) q121a q121c (g := (mkF m 141 #[.val (.int p0_0), .val (.int p0_1), .val (.int p0_2), .val (.int p0_3), .val (.int p0_4), .val (.int p0_5), .val (.int (0 : Int32)), .val (.int (2 : Int32)), .unset, .val (.ref b118), .unset, .unset, .unset] [(.ref b118)])) rfl (by rw [hml]; rfl) (Steps.refl _) (argsL := []) (rest := []) (lenOf pd_1 rfl) rfl (by show 2 * 0 + _ ≤ _; exact Nat.le_of_eq rfl) (hb hby at_141) (fun _ _ => ⟨rfl, e118, (by decide : 2 + 0 ≤ _), (by decide : 68 + 0 ≤ _)⟩)
      dsimp only [Pt.U, Pt.locs, Pt.cells, Pt.slots] at X121 l121 y121 z121 st121 hQ121
      rw [l121, y121, z121] at X121
      obtain ⟨rfl, rfl, eh121⟩ := hQ121
      have N121 := Fr.app N0 (Fr.nil n0)
      obtain ⟨b122, g122⟩ : ∃ z, z = h118.size := ⟨_, rfl⟩
      obtain ⟨T122, h122, k122, X122, e122, E122, A122, st122⟩ := newP X121 hx hZ (wd hw 22 rfl) eh121 (g := (mkF m 190 #[.val (.int p0_0), .val (.int p0_1), .val (.int p0_2), .val (.int p0_3), .val (.int p0_4), .val (.int p0_5), .val (.int (0 : Int32)), .val (.int (2 : Int32)), .unset, .val (.ref b118), .val (.int (16 : Int32)), .val (.int (15 : Int32)), .unset] [(.int (15 : Int32))])) rfl (hb hby at_190) rfl (by decide) (cap := 15) (by decide) (by decide) (by decide) (by decide)
      rw [← g122] at A122 st122
      have ne123 : b118 ≠ b122 := Nat.ne_of_lt (Nat.lt_of_lt_of_le Ex118.lt (Nat.le_of_eq g122.symm))
      have ne124 : d118 ≠ b122 := Nat.ne_of_lt (Nat.lt_of_lt_of_le V118.lt (Nat.le_of_eq g122.symm))
      have sfn122 := Safe.new (Z := Z) (EL := consts_1) (vm := T118.vm) (Nat.le_of_eq g122.symm)
      have sf125 := Safe.ext E122 hCR.1 sfn122
      have hCR := hCR.trans (CHr.ext E122 hCR.1)
      have hk := Nat.le_trans hk E122.1
      have gg122 : n0 ≤ b122 := Nat.le_trans Zs118 (Nat.le_of_eq g122.symm)
      have sz122 : h0.size ≤ b122 := Nat.le_trans K118.1 (Nat.le_of_eq g122.symm)
      have Zs122 : n0 ≤ h122.size := Nat.le_trans Zs118 E122.1
      have K122 : Keep h0 h122 [] := K118.ext E122
      have F126 := F119.ext E122
      have F127 := F120.ext E122
      have F128 := Ex118.ext E122
      have F129 := Fc118.ext E122
      have F130 := Fv118.ext E122
      have F131 := V118.ext E122
      have V122 : Arv Z h122 b122 k122 .char (15 : Int32) [(.int (0 : Int32)), (.int (0 : Int32)), (.int (0 : Int32)), (.int (0 : Int32)), (.int (0 : Int32)), (.int (0 : Int32)), (.int (0 : Int32)), (.int (0 : Int32)), (.int (0 : Int32)), (.int (0 : Int32)), (.int (0 : Int32)), (.int (0 : Int32)), (.int (0 : Int32)), (.int (0 : Int32)), (.int (0 : Int32))] (.int (0 : Int32)) := (Arv.new A122 (by decide)).pad (pad_rep [] (.int (0 : Int32)) 15)
      have k132 : ∀ t, Steps p.tables e below (T122.setTop (mkF m 205 #[.val (.int p0_0), .val (.int p0_1), .val (.int p0_2), .val (.int p0_3), .val (.int p0_4), .val (.int p0_5), .val (.int (0 : Int32)), .val (.int (2 : Int32)), .unset, .val (.ref b118), .val (.int (16 : Int32)), .val (.int (15 : Int32)), .val (.ref b122)] [(.int (p0_4 &&& (255 : Int32)).toUInt32.toUInt16.toUInt32.toInt32), (.ref b118), (.ref b122)])) t → Steps p.tables e below (s₁.setTop (entryFrame m #[(.int p0_0), (.int p0_1), (.int p0_2), (.int p0_3), (.int p0_4), (.int p0_5)] maxLocals)) t := by
        intro t k
        refine k1 t ?_
        refine XS.iload X0.here hx rfl (hb hby at_16) rfl ?_
        refine XS.iconst X0.here hx rfl (hb hby at_18) ?_
        refine XS.icmpYes X0.here hx rfl (pc0 := 19) (pc' := 114) rfl (hb hby at_19) rfl (feq (by decide : ¬ ((0 : Int32) = (3 : Int32)))).2 (by decide) (by decide) ?_
        refine XS.iload X0.here hx rfl (hb hby at_114) rfl ?_
        refine XS.ifNo X0.here hx rfl (hb hby at_116) rfl ((if0 _ _).trans (teq (by decide : (0 : Int32) = (0 : Int32))).2) ?_
        show Steps p.tables e below (s₁.setTop (mkF m 119 #[.val (.int p0_0), .val (.int p0_1), .val (.int p0_2), .val (.int p0_3), .val (.int p0_4), .val (.int p0_5), .val (.int (0 : Int32)), .val (.int (2 : Int32)), .unset, .unset, .unset, .unset, .unset] [])) _
        refine st118 _ ?_
        refine XS.goto X118.here hx rfl (pc0 := 121) (pc' := 137) rfl (hb hby at_121) (by decide) (by decide) ?_
        refine XS.astore X118.here hx rfl (hb hby at_137) rfl rfl (l' := #[.val (.int p0_0), .val (.int p0_1), .val (.int p0_2), .val (.int p0_3), .val (.int p0_4), .val (.int p0_5), .val (.int (0 : Int32)), .val (.int (2 : Int32)), .unset, .val (.ref b118), .unset, .unset, .unset]) rfl ?_
        refine XS.aload X118.here hx rfl (hb hby at_139) rfl rfl ?_
        refine st121.trans ?_
        refine XS.istore X121.here hx rfl (hb hby at_144) rfl (l' := #[.val (.int p0_0), .val (.int p0_1), .val (.int p0_2), .val (.int p0_3), .val (.int p0_4), .val (.int p0_5), .val (.int (0 : Int32)), .val (.int (2 : Int32)), .unset, .val (.ref b118), .val (.int (16 : Int32)), .unset, .unset]) rfl ?_
        refine XS.iload X121.here hx rfl (hb hby at_146) rfl ?_
        refine XS.iconst X121.here hx rfl (hb hby at_148) ?_
        refine XS.icmpYes X121.here hx rfl (pc0 := 149) (pc' := 158) rfl (hb hby at_149) rfl (feq (by decide : ¬ ((2 : Int32) = (4 : Int32)))).2 (by decide) (by decide) ?_
        refine XS.iload X121.here hx rfl (hb hby at_158) rfl ?_
        refine XS.iconst X121.here hx rfl (hb hby at_160) ?_
        refine XS.icmpNo X121.here hx rfl (hb hby at_161) rfl (teq (by decide : (2 : Int32) = (2 : Int32))).2 ?_
        refine XS.iload X121.here hx rfl (hb hby at_164) rfl ?_
        refine XS.iconst X121.here hx rfl (hb hby at_166) ?_
        refine XS.isub X121.here hx rfl (hb hby at_167) rfl ?_
        refine XS.goto X121.here hx rfl (pc0 := 168) (pc' := 186) rfl (hb hby at_168) (by decide) (by decide) ?_
        refine XS.istore X121.here hx rfl (hb hby at_186) rfl (l' := #[.val (.int p0_0), .val (.int p0_1), .val (.int p0_2), .val (.int p0_3), .val (.int p0_4), .val (.int p0_5), .val (.int (0 : Int32)), .val (.int (2 : Int32)), .unset, .val (.ref b118), .val (.int (16 : Int32)), .val (.int (15 : Int32)), .unset]) rfl ?_
        refine XS.iload X121.here hx rfl (hb hby at_188) rfl ?_
        show Steps p.tables e below (T121.setTop (mkF m 190 #[.val (.int p0_0), .val (.int p0_1), .val (.int p0_2), .val (.int p0_3), .val (.int p0_4), .val (.int p0_5), .val (.int (0 : Int32)), .val (.int (2 : Int32)), .unset, .val (.ref b118), .val (.int (16 : Int32)), .val (.int (15 : Int32)), .unset] [(.int (15 : Int32))])) _
        refine st122 _ ?_
        refine XS.astore X122.here hx rfl (hb hby at_192) rfl rfl (l' := #[.val (.int p0_0), .val (.int p0_1), .val (.int p0_2), .val (.int p0_3), .val (.int p0_4), .val (.int p0_5), .val (.int (0 : Int32)), .val (.int (2 : Int32)), .unset, .val (.ref b118), .val (.int (16 : Int32)), .val (.int (15 : Int32)), .val (.ref b122)]) rfl ?_
        refine XS.aload X122.here hx rfl (hb hby at_194) rfl rfl ?_
        refine XS.aload X122.here hx rfl (hb hby at_196) rfl rfl ?_
        refine XS.iload X122.here hx rfl (hb hby at_198) rfl ?_
        refine XS.sipush X122.here hx rfl (hb hby at_200) ?_
        refine XS.iand X122.here hx rfl (hb hby at_203) rfl ?_
        refine XS.i2c X122.here hx rfl (hb hby at_204) rfl ?_
        exact k
      rw [show (p0_4 &&& (255 : Int32)).toUInt32.toUInt16.toUInt32.toInt32 = (p0_4 &&& (255 : Int32)) from own_i2c _ (own_m255 _)] at k132
      have Vr133 : Arv Z h122 b122 k122 .char (15 : Int32) (List.map Value.int (List.replicate 15 (0 : Int32))) (.int (0 : Int32)) := V122
      have Vl134 : Arv Z h122 d118 kb118 .byte (Int32.ofNat own_LR.length) (List.map Value.int (List.map (fun c => c.toInt8.toInt32) own_LR)) (.int (0 : Int32)) := own_lsR ▸ F131
      obtain ⟨_, _, ⟨T135, L135, k135, n135⟩, -, X135, ⟨Lc135, hQ135, l135, y135, z135⟩, st135⟩ := Jvm.LawKit.callS X122 hx (y := (⟨"com/example/leanweave/leanweave/QosMeasureOfColumnPinLaw", "fill", "([CLjava/lang/String;C)V"⟩ : MethodName)) hown (mvT hZ (wd hw 23 rfl)) (mvT hZ (wd hw 24 rfl)) (mvT hZ (wd hw 25 rfl)) (mvT hZ (wd hw 26 rfl)) (by decide) (backOf (W := 0) (rm4 l Z a0 hw [] b122 b118 (p0_4 &&& (255 : Int32)) k122 (15 : Int32) (List.replicate 15 (0 : Int32)) d118 kb118 own_LR cs fm h122 n0 Zs122 Vr133 F128 F130 F129 Vl134 F126 F127 (by decide : (List.replicate 15 (0 : Int32)).length = (15 : Int32).toNatClampNeg) (by decide : ∀ c ∈ (List.replicate 15 (0 : Int32)), ¬ c < 0 ∧ ¬ (255 : Int32) < c) (by decide : ∀ c ∈ own_LR, ¬ c < 0 ∧ ¬ (255 : Int32) < c) (by decide : own_LR.length ≤ 4000) hcs hfm (own_m255 _).1 (own_m255 _).2 ne123 ne124 gg122) hZ (wd hw 26 rfl) (wd hw 25 rfl) (by decide) (by decide)) (g := (mkF m 205 #[.val (.int p0_0), .val (.int p0_1), .val (.int p0_2), .val (.int p0_3), .val (.int p0_4), .val (.int p0_5), .val (.int (0 : Int32)), .val (.int (2 : Int32)), .unset, .val (.ref b118), .val (.int (16 : Int32)), .val (.int (15 : Int32)), .val (.ref b122)] [(.int (p0_4 &&& (255 : Int32))), (.ref b118), (.ref b122)])) rfl (by rw [hml]; rfl) (argsL := [(.ref b122), (.ref b118), (.int (p0_4 &&& (255 : Int32)))]) (rest := []) (lenOf pd_12 rfl) rfl (by show 2 * 0 + _ ≤ _; exact Nat.le_of_eq rfl) (hb hby at_205) (fun _ _ => ⟨rfl, e122, (by decide : 3 + 0 ≤ _), (by decide : 83 + 0 ≤ _)⟩)
      dsimp only [Pt.U, Pt.locs, Pt.cells, Pt.slots] at X135 l135 y135 z135 st135 hQ135
      rw [l135, y135, z135] at X135
      obtain ⟨cb_135, rfl, N135q, Kc135, G135_0, P135_0, P135_1⟩ := hQ135
      have Zs135 : n0 ≤ T135.heap.size := Nat.le_trans Zs122 Kc135.1
      have K135 : Keep h0 T135.heap [] := K122.trans Kc135 (allS (Or.inr sz122) all0)
      have sf136 := Safe.keep Kc135 (sfS (Safe.arv hZ.alike Vr133 (by decide)) sf0) hCR.1 sf125
      have hCR := hCR.trans (CHr.keep Kc135 (sfS (Safe.arv hZ.alike Vr133 (by decide)) sf0) hCR.1)
      have hk := Nat.le_trans hk Kc135.1
      have F137 := own_stakeep F126 Kc135 (allS (own_nsV Vr133) all0)
      have F138 := own_stakeep F127 Kc135 (allS (own_nsV Vr133) all0)
      have F139 := F128.keep Kc135
      have F140 := F129.keep Kc135 (ninS ne123 nin0)
      have F141 := F130.keep Kc135 (ninS ne123 nin0)
      have F142 := Vl134.keep Kc135 (ninS ne124 nin0)
      have N135 := Fr.app N121 N135q
      obtain ⟨b143, g143⟩ : ∃ z, z = T135.heap.size := ⟨_, rfl⟩
      obtain ⟨T143, h143, X143, e143, E143, A143, D143, -, st143⟩ := newO X135 hx hZ hown (wd hw 52 rfl) (wd hw 3 rfl) (wd hw 2 rfl) rfl (g := (mkF m 231 #[.val (.int p0_0), .val (.int p0_1), .val (.int p0_2), .val (.int p0_3), .val (.int p0_4), .val (.int p0_5), .val (.int (0 : Int32)), .val (.int (2 : Int32)), .unset, .val (.ref b118), .val (.int (16 : Int32)), .val (.int (15 : Int32)), .val (.ref b122)] [])) rfl (hb hby at_231) (by decide) (by decide)
      rw [← g143] at A143 D143 st143
      have ne144 : b118 ≠ b143 := Nat.ne_of_lt (Nat.lt_of_lt_of_le F139.lt (Nat.le_of_eq g143.symm))
      have ne145 : d118 ≠ b143 := Nat.ne_of_lt (Nat.lt_of_lt_of_le F142.lt (Nat.le_of_eq g143.symm))
      have ne146 : b122 ≠ b143 := Nat.ne_of_lt (Nat.lt_of_lt_of_le G135_0.lt (Nat.le_of_eq g143.symm))
      have sfn143 := Safe.new (Z := Z) (EL := consts_1) (vm := T118.vm) (Nat.le_of_eq g143.symm)
      have sf147 := Safe.ext E143 hCR.1 sf136
      have sf148 := Safe.ext E143 hCR.1 sfn143
      have hCR := hCR.trans (CHr.ext E143 hCR.1)
      have hk := Nat.le_trans hk E143.1
      have gg143 : n0 ≤ b143 := Nat.le_trans Zs135 (Nat.le_of_eq g143.symm)
      have sz143 : h0.size ≤ b143 := Nat.le_trans K135.1 (Nat.le_of_eq g143.symm)
      have Zs143 : n0 ≤ h143.size := Nat.le_trans Zs135 E143.1
      have K143 : Keep h0 h143 [] := K135.ext E143
      have F149 := F137.ext E143
      have F150 := F138.ext E143
      have F151 := F139.ext E143
      have F152 := F140.ext E143
      have F153 := F141.ext E143
      have F154 := F142.ext E143
      have F155 := G135_0.ext E143
      have F156 : Fld Z h143 b143 "java/lang/String" "value" "[B" .null := D143 (Or.inr (wd hw 5 rfl)) (ty := (.array .byte)) (by decide)
      have F157 : Fld Z h143 b143 "java/lang/String" "coder" "B" (.int (0 : Int32)) := D143 (Or.inr (wd hw 6 rfl)) (ty := .byte) (by decide)
      obtain ⟨_, _, ⟨T158, L158, k158, n158⟩, -, X158, ⟨Lc158, hQ158, l158, y158, z158⟩, st158⟩ := X143.specialBack hx (y := (⟨"java/lang/String", "<init>", "([C)V"⟩ : MethodName)) rfl hown (mvT hZ (wd hw 53 rfl)) (mvT hZ (wd hw 54 rfl)) (mvT hZ (wd hw 55 rfl)) (by decide) (StrChars.Road.backV (W := 1) hZ (fun d hd => hw d (own_sub_backV d hd)) (kI := 4) (wd hw 3 rfl) (cs := cb_135) (bs := cb_135.map (fun c => c.toInt8.toInt32)) (n := 15) gg143 Zs143 A143 F156 F157 F155 F149 hcs (P135_0.trans (by decide)) rfl (by decide) (by decide) P135_1 rfl (by decide) (by decide)) (g := (mkF m 237 #[.val (.int p0_0), .val (.int p0_1), .val (.int p0_2), .val (.int p0_3), .val (.int p0_4), .val (.int p0_5), .val (.int (0 : Int32)), .val (.int (2 : Int32)), .unset, .val (.ref b118), .val (.int (16 : Int32)), .val (.int (15 : Int32)), .val (.ref b122)] [(.ref b122), (.ref b143), (.ref b143)])) rfl (by rw [hml]; rfl) (Steps.refl _) (a := b143) (argsL := [(.ref b122)]) (rest := [(.ref b143)]) (lenOf pd_13 rfl) rfl (by show 2 * 0 + _ ≤ _; exact Nat.le_of_eq rfl) (hb hby at_237) (fun _ _ => ⟨rfl, e143, (by decide : 4 + 1 ≤ _), (by decide : 87 + 15 ≤ _)⟩)
      dsimp only [Pt.U, Pt.locs, Pt.cells, Pt.slots] at X158 l158 y158 z158 st158 hQ158
      rw [l158, y158, z158] at X158
      obtain ⟨rfl, N158q, Kc158, G158_0, G158_1, t158, kb158, ggt158, szt158, nex158, G158_2, G158_3⟩ := hQ158
      have szz158 : h0.size ≤ t158 := Nat.le_trans K143.1 szt158
      have Zs158 : n0 ≤ T158.heap.size := Nat.le_trans Zs143 Kc158.1
      have K158 : Keep h0 T158.heap [] := K143.trans Kc158 (allS (Or.inr sz143) all0)
      have sf159 := Safe.keep Kc158 (sfS sf148 sf0) hCR.1 sf147
      have sf160 := Safe.keep Kc158 (sfS sf148 sf0) hCR.1 sf148
      have hCR := hCR.trans (CHr.keep Kc158 (sfS sf148 sf0) hCR.1)
      have hk := Nat.le_trans hk Kc158.1
      have F161 := own_stakeep F149 Kc158 (allS (own_nsE A143) all0)
      have F162 := own_stakeep F150 Kc158 (allS (own_nsE A143) all0)
      have F163 := F151.keep Kc158
      have F164 := F152.keep Kc158 (ninS ne144 nin0)
      have F165 := F153.keep Kc158 (ninS ne144 nin0)
      have F166 := F154.keep Kc158 (ninS ne145 nin0)
      have F167 := F155.keep Kc158 (ninS ne146 nin0)
      have N158 := Fr.app N135 N158q
      have k168 : ∀ t, Steps p.tables e below (T158.setTop (mkF m 242 #[.val (.int p0_0), .val (.int p0_1), .val (.int p0_2), .val (.int p0_3), .val (.int p0_4), .val (.int p0_5), .val (.int (0 : Int32)), .val (.int (2 : Int32)), .val (.ref b143), .val (.ref b118), .val (.int (16 : Int32)), .val (.int (15 : Int32)), .val (.ref b122)] [])) t → Steps p.tables e below (s₁.setTop (entryFrame m #[(.int p0_0), (.int p0_1), (.int p0_2), (.int p0_3), (.int p0_4), (.int p0_5)] maxLocals)) t := by
        intro t k
        refine k132 t ?_
        refine st135 _ ?_
        refine XS.iload X135.here hx rfl (hb hby at_208) rfl ?_
        refine XS.iconst X135.here hx rfl (hb hby at_210) ?_
        refine XS.icmpYes X135.here hx rfl (pc0 := 211) (pc' := 231) rfl (hb hby at_211) rfl (feq (by decide : ¬ ((2 : Int32) = (1 : Int32)))).2 (by decide) (by decide) ?_
        refine st143 _ ?_
        refine XS.dup X143.here hx rfl (hb hby at_234) rfl rfl ?_
        refine XS.aload X143.here hx rfl (hb hby at_235) rfl rfl ?_
        refine st158.trans ?_
        refine XS.astore X158.here hx rfl (hb hby at_240) rfl rfl (l' := #[.val (.int p0_0), .val (.int p0_1), .val (.int p0_2), .val (.int p0_3), .val (.int p0_4), .val (.int p0_5), .val (.int (0 : Int32)), .val (.int (2 : Int32)), .val (.ref b143), .val (.ref b118), .val (.int (16 : Int32)), .val (.int (15 : Int32)), .val (.ref b122)]) rfl ?_
        exact k
      obtain ⟨t_, o_, ss_, s2_, s3_, v_, L_, hv_, hq_, hf_⟩ := sgs1 hw hEL wS h0 p0_0 p0_1 p0_2 p0_3 p0_4 p0_5 (0 : Int32) (2 : Int32) b143 (.val (.int (15 : Int32))) (.val (.ref b122)) b118 (.val (.int (16 : Int32))) u_EMPTY u__VALUES cl_u__VALUES u_RESPONSE_TIME u_THROUGHPUT u_COST u_RESPONSE_TIME_column u_RESPONSE_TIME_column_value cl_u_RESPONSE_TIME_column_value u_THROUGHPUT_column u_THROUGHPUT_column_value cl_u_THROUGHPUT_column_value u_COST_column u_COST_column_value cl_u_COST_column_value cs t158 kb158 (15 : Int32) cb_135 T158.heap n0 Zs158 S_EMPTY E_u_EMPTY F_u_EMPTY_value S__VALUES E_u__VALUES S_RESPONSE_TIME E_u_RESPONSE_TIME S_THROUGHPUT E_u_THROUGHPUT S_COST E_u_COST F_u_RESPONSE_TIME_column E_u_RESPONSE_TIME_column F_u_RESPONSE_TIME_column_coder F_u_RESPONSE_TIME_column_value F_u_THROUGHPUT_column E_u_THROUGHPUT_column F_u_THROUGHPUT_column_coder F_u_THROUGHPUT_column_value F_u_COST_column E_u_COST_column F_u_COST_column_coder F_u_COST_column_value V_u__VALUES V_u_RESPONSE_TIME_column_value V_u_THROUGHPUT_column_value V_u_COST_column_value K158 F161 G158_0 G158_2 G158_1 G158_3 hcs (Or.inr ⟨_, rfl, rfl⟩) (by rw [P135_0]; rfl) P135_1 (by rw [P135_0]; decide) (X158.more (by decide) (by decide)) hx hZ hby hml hown Bd.returns (by first | assumption | exact BodyLoose.notSynchronized (by assumption) | exact Body.notSynchronized (by assumption)) rfl N158 hh hS hk hCR
      exact ⟨t_, o_, k168 _ ss_, s2_, s3_, v_, L_, hv_, hq_, hf_⟩
    · skip
      obtain ⟨b169, T169, h169, k169, d169, kb169, X169, e169, E169, hS, hk, hZ, hown, Ex169, Fc169, Fv169, V169, lta169, ltb169, hC169, hL169, hsf169, st169⟩ := ldcCH X0 hx hZ hown (wd hw 1 rfl) wS e0 hS hk hEL (List.mem_of_getElem? (i := 0) rfl) hCR.1 (vs := [(.int (114 : Int32)), (.int (101 : Int32)), (.int (115 : Int32)), (.int (112 : Int32)), (.int (111 : Int32)), (.int (110 : Int32)), (.int (115 : Int32)), (.int (101 : Int32)), (.int (95 : Int32)), (.int (116 : Int32)), (.int (105 : Int32)), (.int (109 : Int32)), (.int (101 : Int32)), (.int (95 : Int32)), (.int (109 : Int32)), (.int (115 : Int32))]) (z := (16 : Int32)) ⟨by decide, rfl⟩ (by decide) rfl (g := (mkF m 119 #[.val (.int p0_0), .val (.int p0_1), .val (.int p0_2), .val (.int p0_3), .val (.int p0_4), .val (.int p0_5), .val (.int (0 : Int32)), .val (.int (3 : Int32)), .unset, .unset, .unset, .unset, .unset] [])) rfl (hb hby at_119) (n := 64) (by decide) (by decide) (by decide) (by decide)
      have hCR := hCR.trans hC169
      have Zs169 : n0 ≤ h169.size := Nat.le_trans Z0 E169.1
      have K169 : Keep h0 h169 [] := (Keep.refl h0 []).ext E169
      have F170 := Sc.ext E169
      have F171 := Sf.ext E169
      obtain ⟨cq172, kq172, q172a, q172b, q172c⟩ := isOf hZ e169 Ex169
      obtain ⟨_, _, ⟨T172, L172, k172, n172⟩, -, X172, ⟨Lc172, hQ172, l172, y172, z172⟩, st172⟩ := X169.virtualBack hx (y := (⟨"java/lang/String", "length", "()I"⟩ : MethodName)) (z := (⟨"java/lang/String", "length", "()I"⟩ : MethodName)) hown (mvT hZ (wd hw 9 rfl)) (mvT hZ (wd hw 10 rfl)) (notFace_of_selects (args := #[]) (mvT hZ (wd hw 12 rfl))) (mvT hZ (wd hw 12 rfl)) (mvT hZ (wd hw 11 rfl)) (by decide) (StrChars.Road.lenW (W := 0) hZ (fun d hd => hw d (own_sub_lenW d hd)) (kI := 4) (wd hw 3 rfl) (cs := own_LR) Ex169 Fv169 Fc169 V169 own_codR own_bdR F170 hcs (by decide) (by decide) (by decide)) q172a q172c (g := (mkF m 141 #[.val (.int p0_0), .val (.int p0_1), .val (.int p0_2), .val (.int p0_3), .val (.int p0_4), .val (.int p0_5), .val (.int (0 : Int32)), .val (.int (3 : Int32)), .unset, .val (.ref b169), .unset, .unset, .unset] [(.ref b169)])) rfl (by rw [hml]; rfl) (Steps.refl _) (argsL := []) (rest := []) (lenOf pd_1 rfl) rfl (by show 2 * 0 + _ ≤ _; exact Nat.le_of_eq rfl) (hb hby at_141) (fun _ _ => ⟨rfl, e169, (by decide : 2 + 0 ≤ _), (by decide : 68 + 0 ≤ _)⟩)
      dsimp only [Pt.U, Pt.locs, Pt.cells, Pt.slots] at X172 l172 y172 z172 st172 hQ172
      rw [l172, y172, z172] at X172
      obtain ⟨rfl, rfl, eh172⟩ := hQ172
      have N172 := Fr.app N0 (Fr.nil n0)
      obtain ⟨b173, g173⟩ : ∃ z, z = h169.size := ⟨_, rfl⟩
      obtain ⟨T173, h173, k173, X173, e173, E173, A173, st173⟩ := newP X172 hx hZ (wd hw 22 rfl) eh172 (g := (mkF m 190 #[.val (.int p0_0), .val (.int p0_1), .val (.int p0_2), .val (.int p0_3), .val (.int p0_4), .val (.int p0_5), .val (.int (0 : Int32)), .val (.int (3 : Int32)), .unset, .val (.ref b169), .val (.int (16 : Int32)), .val (.int (17 : Int32)), .unset] [(.int (17 : Int32))])) rfl (hb hby at_190) rfl (by decide) (cap := 17) (by decide) (by decide) (by decide) (by decide)
      rw [← g173] at A173 st173
      have ne174 : b169 ≠ b173 := Nat.ne_of_lt (Nat.lt_of_lt_of_le Ex169.lt (Nat.le_of_eq g173.symm))
      have ne175 : d169 ≠ b173 := Nat.ne_of_lt (Nat.lt_of_lt_of_le V169.lt (Nat.le_of_eq g173.symm))
      have sfn173 := Safe.new (Z := Z) (EL := consts_1) (vm := T169.vm) (Nat.le_of_eq g173.symm)
      have sf176 := Safe.ext E173 hCR.1 sfn173
      have hCR := hCR.trans (CHr.ext E173 hCR.1)
      have hk := Nat.le_trans hk E173.1
      have gg173 : n0 ≤ b173 := Nat.le_trans Zs169 (Nat.le_of_eq g173.symm)
      have sz173 : h0.size ≤ b173 := Nat.le_trans K169.1 (Nat.le_of_eq g173.symm)
      have Zs173 : n0 ≤ h173.size := Nat.le_trans Zs169 E173.1
      have K173 : Keep h0 h173 [] := K169.ext E173
      have F177 := F170.ext E173
      have F178 := F171.ext E173
      have F179 := Ex169.ext E173
      have F180 := Fc169.ext E173
      have F181 := Fv169.ext E173
      have F182 := V169.ext E173
      have V173 : Arv Z h173 b173 k173 .char (17 : Int32) [(.int (0 : Int32)), (.int (0 : Int32)), (.int (0 : Int32)), (.int (0 : Int32)), (.int (0 : Int32)), (.int (0 : Int32)), (.int (0 : Int32)), (.int (0 : Int32)), (.int (0 : Int32)), (.int (0 : Int32)), (.int (0 : Int32)), (.int (0 : Int32)), (.int (0 : Int32)), (.int (0 : Int32)), (.int (0 : Int32)), (.int (0 : Int32)), (.int (0 : Int32))] (.int (0 : Int32)) := (Arv.new A173 (by decide)).pad (pad_rep [] (.int (0 : Int32)) 17)
      have k183 : ∀ t, Steps p.tables e below (T173.setTop (mkF m 205 #[.val (.int p0_0), .val (.int p0_1), .val (.int p0_2), .val (.int p0_3), .val (.int p0_4), .val (.int p0_5), .val (.int (0 : Int32)), .val (.int (3 : Int32)), .unset, .val (.ref b169), .val (.int (16 : Int32)), .val (.int (17 : Int32)), .val (.ref b173)] [(.int (p0_4 &&& (255 : Int32)).toUInt32.toUInt16.toUInt32.toInt32), (.ref b169), (.ref b173)])) t → Steps p.tables e below (s₁.setTop (entryFrame m #[(.int p0_0), (.int p0_1), (.int p0_2), (.int p0_3), (.int p0_4), (.int p0_5)] maxLocals)) t := by
        intro t k
        refine k1 t ?_
        refine XS.iload X0.here hx rfl (hb hby at_16) rfl ?_
        refine XS.iconst X0.here hx rfl (hb hby at_18) ?_
        refine XS.icmpYes X0.here hx rfl (pc0 := 19) (pc' := 114) rfl (hb hby at_19) rfl (feq (by decide : ¬ ((0 : Int32) = (3 : Int32)))).2 (by decide) (by decide) ?_
        refine XS.iload X0.here hx rfl (hb hby at_114) rfl ?_
        refine XS.ifNo X0.here hx rfl (hb hby at_116) rfl ((if0 _ _).trans (teq (by decide : (0 : Int32) = (0 : Int32))).2) ?_
        show Steps p.tables e below (s₁.setTop (mkF m 119 #[.val (.int p0_0), .val (.int p0_1), .val (.int p0_2), .val (.int p0_3), .val (.int p0_4), .val (.int p0_5), .val (.int (0 : Int32)), .val (.int (3 : Int32)), .unset, .unset, .unset, .unset, .unset] [])) _
        refine st169 _ ?_
        refine XS.goto X169.here hx rfl (pc0 := 121) (pc' := 137) rfl (hb hby at_121) (by decide) (by decide) ?_
        refine XS.astore X169.here hx rfl (hb hby at_137) rfl rfl (l' := #[.val (.int p0_0), .val (.int p0_1), .val (.int p0_2), .val (.int p0_3), .val (.int p0_4), .val (.int p0_5), .val (.int (0 : Int32)), .val (.int (3 : Int32)), .unset, .val (.ref b169), .unset, .unset, .unset]) rfl ?_
        refine XS.aload X169.here hx rfl (hb hby at_139) rfl rfl ?_
        refine st172.trans ?_
        refine XS.istore X172.here hx rfl (hb hby at_144) rfl (l' := #[.val (.int p0_0), .val (.int p0_1), .val (.int p0_2), .val (.int p0_3), .val (.int p0_4), .val (.int p0_5), .val (.int (0 : Int32)), .val (.int (3 : Int32)), .unset, .val (.ref b169), .val (.int (16 : Int32)), .unset, .unset]) rfl ?_
        refine XS.iload X172.here hx rfl (hb hby at_146) rfl ?_
        refine XS.iconst X172.here hx rfl (hb hby at_148) ?_
        refine XS.icmpYes X172.here hx rfl (pc0 := 149) (pc' := 158) rfl (hb hby at_149) rfl (feq (by decide : ¬ ((3 : Int32) = (4 : Int32)))).2 (by decide) (by decide) ?_
        refine XS.iload X172.here hx rfl (hb hby at_158) rfl ?_
        refine XS.iconst X172.here hx rfl (hb hby at_160) ?_
        refine XS.icmpYes X172.here hx rfl (pc0 := 161) (pc' := 171) rfl (hb hby at_161) rfl (feq (by decide : ¬ ((3 : Int32) = (2 : Int32)))).2 (by decide) (by decide) ?_
        refine XS.iload X172.here hx rfl (hb hby at_171) rfl ?_
        refine XS.iconst X172.here hx rfl (hb hby at_173) ?_
        refine XS.icmpNo X172.here hx rfl (hb hby at_174) rfl (teq (by decide : (3 : Int32) = (3 : Int32))).2 ?_
        refine XS.iload X172.here hx rfl (hb hby at_177) rfl ?_
        refine XS.iconst X172.here hx rfl (hb hby at_179) ?_
        refine XS.iadd X172.here hx rfl (hb hby at_180) rfl ?_
        show Steps p.tables e below (T172.setTop (mkF m 181 #[.val (.int p0_0), .val (.int p0_1), .val (.int p0_2), .val (.int p0_3), .val (.int p0_4), .val (.int p0_5), .val (.int (0 : Int32)), .val (.int (3 : Int32)), .unset, .val (.ref b169), .val (.int (16 : Int32)), .unset, .unset] [(.int (17 : Int32))])) _
        refine XS.goto X172.here hx rfl (pc0 := 181) (pc' := 186) rfl (hb hby at_181) (by decide) (by decide) ?_
        refine XS.istore X172.here hx rfl (hb hby at_186) rfl (l' := #[.val (.int p0_0), .val (.int p0_1), .val (.int p0_2), .val (.int p0_3), .val (.int p0_4), .val (.int p0_5), .val (.int (0 : Int32)), .val (.int (3 : Int32)), .unset, .val (.ref b169), .val (.int (16 : Int32)), .val (.int (17 : Int32)), .unset]) rfl ?_
        refine XS.iload X172.here hx rfl (hb hby at_188) rfl ?_
        refine st173 _ ?_
        refine XS.astore X173.here hx rfl (hb hby at_192) rfl rfl (l' := #[.val (.int p0_0), .val (.int p0_1), .val (.int p0_2), .val (.int p0_3), .val (.int p0_4), .val (.int p0_5), .val (.int (0 : Int32)), .val (.int (3 : Int32)), .unset, .val (.ref b169), .val (.int (16 : Int32)), .val (.int (17 : Int32)), .val (.ref b173)]) rfl ?_
        refine XS.aload X173.here hx rfl (hb hby at_194) rfl rfl ?_
        refine XS.aload X173.here hx rfl (hb hby at_196) rfl rfl ?_
        refine XS.iload X173.here hx rfl (hb hby at_198) rfl ?_
        refine XS.sipush X173.here hx rfl (hb hby at_200) ?_
        refine XS.iand X173.here hx rfl (hb hby at_203) rfl ?_
        refine XS.i2c X173.here hx rfl (hb hby at_204) rfl ?_
        exact k
      rw [show (p0_4 &&& (255 : Int32)).toUInt32.toUInt16.toUInt32.toInt32 = (p0_4 &&& (255 : Int32)) from own_i2c _ (own_m255 _)] at k183
      have Vr184 : Arv Z h173 b173 k173 .char (17 : Int32) (List.map Value.int (List.replicate 17 (0 : Int32))) (.int (0 : Int32)) := V173
      have Vl185 : Arv Z h173 d169 kb169 .byte (Int32.ofNat own_LR.length) (List.map Value.int (List.map (fun c => c.toInt8.toInt32) own_LR)) (.int (0 : Int32)) := own_lsR ▸ F182
      obtain ⟨_, _, ⟨T186, L186, k186, n186⟩, -, X186, ⟨Lc186, hQ186, l186, y186, z186⟩, st186⟩ := Jvm.LawKit.callS X173 hx (y := (⟨"com/example/leanweave/leanweave/QosMeasureOfColumnPinLaw", "fill", "([CLjava/lang/String;C)V"⟩ : MethodName)) hown (mvT hZ (wd hw 23 rfl)) (mvT hZ (wd hw 24 rfl)) (mvT hZ (wd hw 25 rfl)) (mvT hZ (wd hw 26 rfl)) (by decide) (backOf (W := 0) (rm4 l Z a0 hw [] b173 b169 (p0_4 &&& (255 : Int32)) k173 (17 : Int32) (List.replicate 17 (0 : Int32)) d169 kb169 own_LR cs fm h173 n0 Zs173 Vr184 F179 F181 F180 Vl185 F177 F178 (by decide : (List.replicate 17 (0 : Int32)).length = (17 : Int32).toNatClampNeg) (by decide : ∀ c ∈ (List.replicate 17 (0 : Int32)), ¬ c < 0 ∧ ¬ (255 : Int32) < c) (by decide : ∀ c ∈ own_LR, ¬ c < 0 ∧ ¬ (255 : Int32) < c) (by decide : own_LR.length ≤ 4000) hcs hfm (own_m255 _).1 (own_m255 _).2 ne174 ne175 gg173) hZ (wd hw 26 rfl) (wd hw 25 rfl) (by decide) (by decide)) (g := (mkF m 205 #[.val (.int p0_0), .val (.int p0_1), .val (.int p0_2), .val (.int p0_3), .val (.int p0_4), .val (.int p0_5), .val (.int (0 : Int32)), .val (.int (3 : Int32)), .unset, .val (.ref b169), .val (.int (16 : Int32)), .val (.int (17 : Int32)), .val (.ref b173)] [(.int (p0_4 &&& (255 : Int32))), (.ref b169), (.ref b173)])) rfl (by rw [hml]; rfl) (argsL := [(.ref b173), (.ref b169), (.int (p0_4 &&& (255 : Int32)))]) (rest := []) (lenOf pd_12 rfl) rfl (by show 2 * 0 + _ ≤ _; exact Nat.le_of_eq rfl) (hb hby at_205) (fun _ _ => ⟨rfl, e173, (by decide : 3 + 0 ≤ _), (by decide : 85 + 0 ≤ _)⟩)
      dsimp only [Pt.U, Pt.locs, Pt.cells, Pt.slots] at X186 l186 y186 z186 st186 hQ186
      rw [l186, y186, z186] at X186
      obtain ⟨cb_186, rfl, N186q, Kc186, G186_0, P186_0, P186_1⟩ := hQ186
      have Zs186 : n0 ≤ T186.heap.size := Nat.le_trans Zs173 Kc186.1
      have K186 : Keep h0 T186.heap [] := K173.trans Kc186 (allS (Or.inr sz173) all0)
      have sf187 := Safe.keep Kc186 (sfS (Safe.arv hZ.alike Vr184 (by decide)) sf0) hCR.1 sf176
      have hCR := hCR.trans (CHr.keep Kc186 (sfS (Safe.arv hZ.alike Vr184 (by decide)) sf0) hCR.1)
      have hk := Nat.le_trans hk Kc186.1
      have F188 := own_stakeep F177 Kc186 (allS (own_nsV Vr184) all0)
      have F189 := own_stakeep F178 Kc186 (allS (own_nsV Vr184) all0)
      have F190 := F179.keep Kc186
      have F191 := F180.keep Kc186 (ninS ne174 nin0)
      have F192 := F181.keep Kc186 (ninS ne174 nin0)
      have F193 := Vl185.keep Kc186 (ninS ne175 nin0)
      have N186 := Fr.app N172 N186q
      obtain ⟨b194, g194⟩ : ∃ z, z = T186.heap.size := ⟨_, rfl⟩
      obtain ⟨T194, h194, X194, e194, E194, A194, D194, -, st194⟩ := newO X186 hx hZ hown (wd hw 52 rfl) (wd hw 3 rfl) (wd hw 2 rfl) rfl (g := (mkF m 231 #[.val (.int p0_0), .val (.int p0_1), .val (.int p0_2), .val (.int p0_3), .val (.int p0_4), .val (.int p0_5), .val (.int (0 : Int32)), .val (.int (3 : Int32)), .unset, .val (.ref b169), .val (.int (16 : Int32)), .val (.int (17 : Int32)), .val (.ref b173)] [])) rfl (hb hby at_231) (by decide) (by decide)
      rw [← g194] at A194 D194 st194
      have ne195 : b169 ≠ b194 := Nat.ne_of_lt (Nat.lt_of_lt_of_le F190.lt (Nat.le_of_eq g194.symm))
      have ne196 : d169 ≠ b194 := Nat.ne_of_lt (Nat.lt_of_lt_of_le F193.lt (Nat.le_of_eq g194.symm))
      have ne197 : b173 ≠ b194 := Nat.ne_of_lt (Nat.lt_of_lt_of_le G186_0.lt (Nat.le_of_eq g194.symm))
      have sfn194 := Safe.new (Z := Z) (EL := consts_1) (vm := T169.vm) (Nat.le_of_eq g194.symm)
      have sf198 := Safe.ext E194 hCR.1 sf187
      have sf199 := Safe.ext E194 hCR.1 sfn194
      have hCR := hCR.trans (CHr.ext E194 hCR.1)
      have hk := Nat.le_trans hk E194.1
      have gg194 : n0 ≤ b194 := Nat.le_trans Zs186 (Nat.le_of_eq g194.symm)
      have sz194 : h0.size ≤ b194 := Nat.le_trans K186.1 (Nat.le_of_eq g194.symm)
      have Zs194 : n0 ≤ h194.size := Nat.le_trans Zs186 E194.1
      have K194 : Keep h0 h194 [] := K186.ext E194
      have F200 := F188.ext E194
      have F201 := F189.ext E194
      have F202 := F190.ext E194
      have F203 := F191.ext E194
      have F204 := F192.ext E194
      have F205 := F193.ext E194
      have F206 := G186_0.ext E194
      have F207 : Fld Z h194 b194 "java/lang/String" "value" "[B" .null := D194 (Or.inr (wd hw 5 rfl)) (ty := (.array .byte)) (by decide)
      have F208 : Fld Z h194 b194 "java/lang/String" "coder" "B" (.int (0 : Int32)) := D194 (Or.inr (wd hw 6 rfl)) (ty := .byte) (by decide)
      obtain ⟨_, _, ⟨T209, L209, k209, n209⟩, -, X209, ⟨Lc209, hQ209, l209, y209, z209⟩, st209⟩ := X194.specialBack hx (y := (⟨"java/lang/String", "<init>", "([C)V"⟩ : MethodName)) rfl hown (mvT hZ (wd hw 53 rfl)) (mvT hZ (wd hw 54 rfl)) (mvT hZ (wd hw 55 rfl)) (by decide) (StrChars.Road.backV (W := 1) hZ (fun d hd => hw d (own_sub_backV d hd)) (kI := 4) (wd hw 3 rfl) (cs := cb_186) (bs := cb_186.map (fun c => c.toInt8.toInt32)) (n := 17) gg194 Zs194 A194 F207 F208 F206 F200 hcs (P186_0.trans (by decide)) rfl (by decide) (by decide) P186_1 rfl (by decide) (by decide)) (g := (mkF m 237 #[.val (.int p0_0), .val (.int p0_1), .val (.int p0_2), .val (.int p0_3), .val (.int p0_4), .val (.int p0_5), .val (.int (0 : Int32)), .val (.int (3 : Int32)), .unset, .val (.ref b169), .val (.int (16 : Int32)), .val (.int (17 : Int32)), .val (.ref b173)] [(.ref b173), (.ref b194), (.ref b194)])) rfl (by rw [hml]; rfl) (Steps.refl _) (a := b194) (argsL := [(.ref b173)]) (rest := [(.ref b194)]) (lenOf pd_13 rfl) rfl (by show 2 * 0 + _ ≤ _; exact Nat.le_of_eq rfl) (hb hby at_237) (fun _ _ => ⟨rfl, e194, (by decide : 4 + 1 ≤ _), (by decide : 89 + 17 ≤ _)⟩)
      dsimp only [Pt.U, Pt.locs, Pt.cells, Pt.slots] at X209 l209 y209 z209 st209 hQ209
      rw [l209, y209, z209] at X209
      obtain ⟨rfl, N209q, Kc209, G209_0, G209_1, t209, kb209, ggt209, szt209, nex209, G209_2, G209_3⟩ := hQ209
      have szz209 : h0.size ≤ t209 := Nat.le_trans K194.1 szt209
      have Zs209 : n0 ≤ T209.heap.size := Nat.le_trans Zs194 Kc209.1
      have K209 : Keep h0 T209.heap [] := K194.trans Kc209 (allS (Or.inr sz194) all0)
      have sf210 := Safe.keep Kc209 (sfS sf199 sf0) hCR.1 sf198
      have sf211 := Safe.keep Kc209 (sfS sf199 sf0) hCR.1 sf199
      have hCR := hCR.trans (CHr.keep Kc209 (sfS sf199 sf0) hCR.1)
      have hk := Nat.le_trans hk Kc209.1
      have F212 := own_stakeep F200 Kc209 (allS (own_nsE A194) all0)
      have F213 := own_stakeep F201 Kc209 (allS (own_nsE A194) all0)
      have F214 := F202.keep Kc209
      have F215 := F203.keep Kc209 (ninS ne195 nin0)
      have F216 := F204.keep Kc209 (ninS ne195 nin0)
      have F217 := F205.keep Kc209 (ninS ne196 nin0)
      have F218 := F206.keep Kc209 (ninS ne197 nin0)
      have N209 := Fr.app N186 N209q
      have k219 : ∀ t, Steps p.tables e below (T209.setTop (mkF m 242 #[.val (.int p0_0), .val (.int p0_1), .val (.int p0_2), .val (.int p0_3), .val (.int p0_4), .val (.int p0_5), .val (.int (0 : Int32)), .val (.int (3 : Int32)), .val (.ref b194), .val (.ref b169), .val (.int (16 : Int32)), .val (.int (17 : Int32)), .val (.ref b173)] [])) t → Steps p.tables e below (s₁.setTop (entryFrame m #[(.int p0_0), (.int p0_1), (.int p0_2), (.int p0_3), (.int p0_4), (.int p0_5)] maxLocals)) t := by
        intro t k
        refine k183 t ?_
        refine st186 _ ?_
        refine XS.iload X186.here hx rfl (hb hby at_208) rfl ?_
        refine XS.iconst X186.here hx rfl (hb hby at_210) ?_
        refine XS.icmpYes X186.here hx rfl (pc0 := 211) (pc' := 231) rfl (hb hby at_211) rfl (feq (by decide : ¬ ((3 : Int32) = (1 : Int32)))).2 (by decide) (by decide) ?_
        refine st194 _ ?_
        refine XS.dup X194.here hx rfl (hb hby at_234) rfl rfl ?_
        refine XS.aload X194.here hx rfl (hb hby at_235) rfl rfl ?_
        show Steps p.tables e below (T194.setTop (mkF m 237 #[.val (.int p0_0), .val (.int p0_1), .val (.int p0_2), .val (.int p0_3), .val (.int p0_4), .val (.int p0_5), .val (.int (0 : Int32)), .val (.int (3 : Int32)), .unset, .val (.ref b169), .val (.int (16 : Int32)), .val (.int (17 : Int32)), .val (.ref b173)] [(.ref b173), (.ref b194), (.ref b194)])) _
        refine st209.trans ?_
        refine XS.astore X209.here hx rfl (hb hby at_240) rfl rfl (l' := #[.val (.int p0_0), .val (.int p0_1), .val (.int p0_2), .val (.int p0_3), .val (.int p0_4), .val (.int p0_5), .val (.int (0 : Int32)), .val (.int (3 : Int32)), .val (.ref b194), .val (.ref b169), .val (.int (16 : Int32)), .val (.int (17 : Int32)), .val (.ref b173)]) rfl ?_
        exact k
      obtain ⟨t_, o_, ss_, s2_, s3_, v_, L_, hv_, hq_, hf_⟩ := sgs1 hw hEL wS h0 p0_0 p0_1 p0_2 p0_3 p0_4 p0_5 (0 : Int32) (3 : Int32) b194 (.val (.int (17 : Int32))) (.val (.ref b173)) b169 (.val (.int (16 : Int32))) u_EMPTY u__VALUES cl_u__VALUES u_RESPONSE_TIME u_THROUGHPUT u_COST u_RESPONSE_TIME_column u_RESPONSE_TIME_column_value cl_u_RESPONSE_TIME_column_value u_THROUGHPUT_column u_THROUGHPUT_column_value cl_u_THROUGHPUT_column_value u_COST_column u_COST_column_value cl_u_COST_column_value cs t209 kb209 (17 : Int32) cb_186 T209.heap n0 Zs209 S_EMPTY E_u_EMPTY F_u_EMPTY_value S__VALUES E_u__VALUES S_RESPONSE_TIME E_u_RESPONSE_TIME S_THROUGHPUT E_u_THROUGHPUT S_COST E_u_COST F_u_RESPONSE_TIME_column E_u_RESPONSE_TIME_column F_u_RESPONSE_TIME_column_coder F_u_RESPONSE_TIME_column_value F_u_THROUGHPUT_column E_u_THROUGHPUT_column F_u_THROUGHPUT_column_coder F_u_THROUGHPUT_column_value F_u_COST_column E_u_COST_column F_u_COST_column_coder F_u_COST_column_value V_u__VALUES V_u_RESPONSE_TIME_column_value V_u_THROUGHPUT_column_value V_u_COST_column_value K209 F212 G209_0 G209_2 G209_1 G209_3 hcs (Or.inr ⟨_, rfl, rfl⟩) (by rw [P186_0]; rfl) P186_1 (by rw [P186_0]; decide) (X209.more (by decide) (by decide)) hx hZ hby hml hown Bd.returns (by first | assumption | exact BodyLoose.notSynchronized (by assumption) | exact Body.notSynchronized (by assumption)) rfl N209 hh hS hk hCR
      exact ⟨t_, o_, k219 _ ss_, s2_, s3_, v_, L_, hv_, hq_, hf_⟩
    · skip
      obtain ⟨b220, T220, h220, k220, d220, kb220, X220, e220, E220, hS, hk, hZ, hown, Ex220, Fc220, Fv220, V220, lta220, ltb220, hC220, hL220, hsf220, st220⟩ := ldcCH X0 hx hZ hown (wd hw 1 rfl) wS e0 hS hk hEL (List.mem_of_getElem? (i := 0) rfl) hCR.1 (vs := [(.int (114 : Int32)), (.int (101 : Int32)), (.int (115 : Int32)), (.int (112 : Int32)), (.int (111 : Int32)), (.int (110 : Int32)), (.int (115 : Int32)), (.int (101 : Int32)), (.int (95 : Int32)), (.int (116 : Int32)), (.int (105 : Int32)), (.int (109 : Int32)), (.int (101 : Int32)), (.int (95 : Int32)), (.int (109 : Int32)), (.int (115 : Int32))]) (z := (16 : Int32)) ⟨by decide, rfl⟩ (by decide) rfl (g := (mkF m 119 #[.val (.int p0_0), .val (.int p0_1), .val (.int p0_2), .val (.int p0_3), .val (.int p0_4), .val (.int p0_5), .val (.int (0 : Int32)), .val (.int (4 : Int32)), .unset, .unset, .unset, .unset, .unset] [])) rfl (hb hby at_119) (n := 64) (by decide) (by decide) (by decide) (by decide)
      have hCR := hCR.trans hC220
      have Zs220 : n0 ≤ h220.size := Nat.le_trans Z0 E220.1
      have K220 : Keep h0 h220 [] := (Keep.refl h0 []).ext E220
      have F221 := Sc.ext E220
      have F222 := Sf.ext E220
      obtain ⟨cq223, kq223, q223a, q223b, q223c⟩ := isOf hZ e220 Ex220
      obtain ⟨_, _, ⟨T223, L223, k223, n223⟩, -, X223, ⟨Lc223, hQ223, l223, y223, z223⟩, st223⟩ := X220.virtualBack hx (y := (⟨"java/lang/String", "length", "()I"⟩ : MethodName)) (z := (⟨"java/lang/String", "length", "()I"⟩ : MethodName)) hown (mvT hZ (wd hw 9 rfl)) (mvT hZ (wd hw 10 rfl)) (notFace_of_selects (args := #[]) (mvT hZ (wd hw 12 rfl))) (mvT hZ (wd hw 12 rfl)) (mvT hZ (wd hw 11 rfl)) (by decide) (StrChars.Road.lenW (W := 0) hZ (fun d hd => hw d (own_sub_lenW d hd)) (kI := 4) (wd hw 3 rfl) (cs := own_LR) Ex220 Fv220 Fc220 V220 own_codR own_bdR F221 hcs (by decide) (by decide) (by decide)) q223a q223c (g := (mkF m 141 #[.val (.int p0_0), .val (.int p0_1), .val (.int p0_2), .val (.int p0_3), .val (.int p0_4), .val (.int p0_5), .val (.int (0 : Int32)), .val (.int (4 : Int32)), .unset, .val (.ref b220), .unset, .unset, .unset] [(.ref b220)])) rfl (by rw [hml]; rfl) (Steps.refl _) (argsL := []) (rest := []) (lenOf pd_1 rfl) rfl (by show 2 * 0 + _ ≤ _; exact Nat.le_of_eq rfl) (hb hby at_141) (fun _ _ => ⟨rfl, e220, (by decide : 2 + 0 ≤ _), (by decide : 68 + 0 ≤ _)⟩)
      dsimp only [Pt.U, Pt.locs, Pt.cells, Pt.slots] at X223 l223 y223 z223 st223 hQ223
      rw [l223, y223, z223] at X223
      obtain ⟨rfl, rfl, eh223⟩ := hQ223
      have N223 := Fr.app N0 (Fr.nil n0)
      have k224 : ∀ t, Steps p.tables e below (T223.setTop (mkF m 242 #[.val (.int p0_0), .val (.int p0_1), .val (.int p0_2), .val (.int p0_3), .val (.int p0_4), .val (.int p0_5), .val (.int (0 : Int32)), .val (.int (4 : Int32)), .val .null, .val (.ref b220), .val (.int (16 : Int32)), .unset, .unset] [])) t → Steps p.tables e below (s₁.setTop (entryFrame m #[(.int p0_0), (.int p0_1), (.int p0_2), (.int p0_3), (.int p0_4), (.int p0_5)] maxLocals)) t := by
        intro t k
        refine k1 t ?_
        refine XS.iload X0.here hx rfl (hb hby at_16) rfl ?_
        refine XS.iconst X0.here hx rfl (hb hby at_18) ?_
        refine XS.icmpYes X0.here hx rfl (pc0 := 19) (pc' := 114) rfl (hb hby at_19) rfl (feq (by decide : ¬ ((0 : Int32) = (3 : Int32)))).2 (by decide) (by decide) ?_
        refine XS.iload X0.here hx rfl (hb hby at_114) rfl ?_
        refine XS.ifNo X0.here hx rfl (hb hby at_116) rfl ((if0 _ _).trans (teq (by decide : (0 : Int32) = (0 : Int32))).2) ?_
        show Steps p.tables e below (s₁.setTop (mkF m 119 #[.val (.int p0_0), .val (.int p0_1), .val (.int p0_2), .val (.int p0_3), .val (.int p0_4), .val (.int p0_5), .val (.int (0 : Int32)), .val (.int (4 : Int32)), .unset, .unset, .unset, .unset, .unset] [])) _
        refine st220 _ ?_
        refine XS.goto X220.here hx rfl (pc0 := 121) (pc' := 137) rfl (hb hby at_121) (by decide) (by decide) ?_
        refine XS.astore X220.here hx rfl (hb hby at_137) rfl rfl (l' := #[.val (.int p0_0), .val (.int p0_1), .val (.int p0_2), .val (.int p0_3), .val (.int p0_4), .val (.int p0_5), .val (.int (0 : Int32)), .val (.int (4 : Int32)), .unset, .val (.ref b220), .unset, .unset, .unset]) rfl ?_
        refine XS.aload X220.here hx rfl (hb hby at_139) rfl rfl ?_
        refine st223.trans ?_
        refine XS.istore X223.here hx rfl (hb hby at_144) rfl (l' := #[.val (.int p0_0), .val (.int p0_1), .val (.int p0_2), .val (.int p0_3), .val (.int p0_4), .val (.int p0_5), .val (.int (0 : Int32)), .val (.int (4 : Int32)), .unset, .val (.ref b220), .val (.int (16 : Int32)), .unset, .unset]) rfl ?_
        refine XS.iload X223.here hx rfl (hb hby at_146) rfl ?_
        refine XS.iconst X223.here hx rfl (hb hby at_148) ?_
        refine XS.icmpNo X223.here hx rfl (hb hby at_149) rfl (teq (by decide : (4 : Int32) = (4 : Int32))).2 ?_
        refine XS.aconstNull X223.here hx rfl (hb hby at_152) ?_
        refine XS.astore X223.here hx rfl (hb hby at_153) rfl rfl (l' := #[.val (.int p0_0), .val (.int p0_1), .val (.int p0_2), .val (.int p0_3), .val (.int p0_4), .val (.int p0_5), .val (.int (0 : Int32)), .val (.int (4 : Int32)), .val .null, .val (.ref b220), .val (.int (16 : Int32)), .unset, .unset]) rfl ?_
        refine XS.goto X223.here hx rfl (pc0 := 155) (pc' := 242) rfl (hb hby at_155) (by decide) (by decide) ?_
        exact k
      obtain ⟨t_, o_, ss_, s2_, s3_, v_, L_, hv_, hq_, hf_⟩ := sgs0 hw hEL wS h0 p0_0 p0_1 p0_2 p0_3 p0_4 p0_5 (0 : Int32) (4 : Int32) (.unset) (.unset) b220 (.val (.int (16 : Int32))) u_EMPTY u__VALUES cl_u__VALUES u_RESPONSE_TIME u_THROUGHPUT u_COST u_RESPONSE_TIME_column u_RESPONSE_TIME_column_value cl_u_RESPONSE_TIME_column_value u_THROUGHPUT_column u_THROUGHPUT_column_value cl_u_THROUGHPUT_column_value u_COST_column u_COST_column_value cl_u_COST_column_value cs h220 n0 Zs220 S_EMPTY E_u_EMPTY F_u_EMPTY_value S__VALUES E_u__VALUES S_RESPONSE_TIME E_u_RESPONSE_TIME S_THROUGHPUT E_u_THROUGHPUT S_COST E_u_COST F_u_RESPONSE_TIME_column E_u_RESPONSE_TIME_column F_u_RESPONSE_TIME_column_coder F_u_RESPONSE_TIME_column_value F_u_THROUGHPUT_column E_u_THROUGHPUT_column F_u_THROUGHPUT_column_coder F_u_THROUGHPUT_column_value F_u_COST_column E_u_COST_column F_u_COST_column_coder F_u_COST_column_value V_u__VALUES V_u_RESPONSE_TIME_column_value V_u_THROUGHPUT_column_value V_u_COST_column_value K220 F221 hcs (Or.inr ⟨_, rfl, rfl⟩) (X223.more (by decide) (by decide)) hx hZ hby hml hown Bd.returns (by first | assumption | exact BodyLoose.notSynchronized (by assumption) | exact Body.notSynchronized (by assumption)) eh223 N223 hh hS hk hCR
      exact ⟨t_, o_, k224 _ ss_, s2_, s3_, v_, L_, hv_, hq_, hf_⟩
  · skip
    obtain ⟨z225, hz225⟩ : ∃ z, z = ((p0_1 &&& (2147483647 : Int32)) % (5 : Int32)) := ⟨_, rfl⟩
    rw [← hz225] at k1
    have hz225' : z225 = (0 : Int32) ∨ z225 = (1 : Int32) ∨ z225 = (2 : Int32) ∨ z225 = (3 : Int32) ∨ z225 = (4 : Int32) := by rw [hz225]; exact own_mod5 _
    rcases hz225' with rfl | rfl | rfl | rfl | rfl
    · skip
      obtain ⟨b226, T226, h226, k226, d226, kb226, X226, e226, E226, hS, hk, hZ, hown, Ex226, Fc226, Fv226, V226, lta226, ltb226, hC226, hL226, hsf226, st226⟩ := ldcCH X0 hx hZ hown (wd hw 122 rfl) wS e0 hS hk hEL (List.mem_of_getElem? (i := 1) rfl) hCR.1 (vs := [(.int (116 : Int32)), (.int (104 : Int32)), (.int (114 : Int32)), (.int (111 : Int32)), (.int (117 : Int32)), (.int (103 : Int32)), (.int (104 : Int32)), (.int (112 : Int32)), (.int (117 : Int32)), (.int (116 : Int32)), (.int (95 : Int32)), (.int (112 : Int32)), (.int (101 : Int32)), (.int (114 : Int32)), (.int (95 : Int32)), (.int (115 : Int32))]) (z := (16 : Int32)) ⟨by decide, rfl⟩ (by decide) rfl (g := (mkF m 130 #[.val (.int p0_0), .val (.int p0_1), .val (.int p0_2), .val (.int p0_3), .val (.int p0_4), .val (.int p0_5), .val (.int (1 : Int32)), .val (.int (0 : Int32)), .unset, .unset, .unset, .unset, .unset] [])) rfl (hb hby at_130) (n := 64) (by decide) (by decide) (by decide) (by decide)
      have hCR := hCR.trans hC226
      have Zs226 : n0 ≤ h226.size := Nat.le_trans Z0 E226.1
      have K226 : Keep h0 h226 [] := (Keep.refl h0 []).ext E226
      have F227 := Sc.ext E226
      have F228 := Sf.ext E226
      obtain ⟨cq229, kq229, q229a, q229b, q229c⟩ := isOf hZ e226 Ex226
      obtain ⟨_, _, ⟨T229, L229, k229, n229⟩, -, X229, ⟨Lc229, hQ229, l229, y229, z229⟩, st229⟩ := X226.virtualBack hx (y := (⟨"java/lang/String", "length", "()I"⟩ : MethodName)) (z := (⟨"java/lang/String", "length", "()I"⟩ : MethodName)) hown (mvT hZ (wd hw 9 rfl)) (mvT hZ (wd hw 10 rfl)) (notFace_of_selects (args := #[]) (mvT hZ (wd hw 12 rfl))) (mvT hZ (wd hw 12 rfl)) (mvT hZ (wd hw 11 rfl)) (by decide) (StrChars.Road.lenW (W := 0) hZ (fun d hd => hw d (own_sub_lenW d hd)) (kI := 4) (wd hw 3 rfl) (cs := own_LT) Ex226 Fv226 Fc226 V226 own_codT own_bdT F227 hcs (by decide) (by decide) (by decide)) q229a q229c (g := (mkF m 141 #[.val (.int p0_0), .val (.int p0_1), .val (.int p0_2), .val (.int p0_3), .val (.int p0_4), .val (.int p0_5), .val (.int (1 : Int32)), .val (.int (0 : Int32)), .unset, .val (.ref b226), .unset, .unset, .unset] [(.ref b226)])) rfl (by rw [hml]; rfl) (Steps.refl _) (argsL := []) (rest := []) (lenOf pd_1 rfl) rfl (by show 2 * 0 + _ ≤ _; exact Nat.le_of_eq rfl) (hb hby at_141) (fun _ _ => ⟨rfl, e226, (by decide : 2 + 0 ≤ _), (by decide : 68 + 0 ≤ _)⟩)
      dsimp only [Pt.U, Pt.locs, Pt.cells, Pt.slots] at X229 l229 y229 z229 st229 hQ229
      rw [l229, y229, z229] at X229
      obtain ⟨rfl, rfl, eh229⟩ := hQ229
      have N229 := Fr.app N0 (Fr.nil n0)
      obtain ⟨b230, g230⟩ : ∃ z, z = h226.size := ⟨_, rfl⟩
      obtain ⟨T230, h230, k230, X230, e230, E230, A230, st230⟩ := newP X229 hx hZ (wd hw 22 rfl) eh229 (g := (mkF m 190 #[.val (.int p0_0), .val (.int p0_1), .val (.int p0_2), .val (.int p0_3), .val (.int p0_4), .val (.int p0_5), .val (.int (1 : Int32)), .val (.int (0 : Int32)), .unset, .val (.ref b226), .val (.int (16 : Int32)), .val (.int (16 : Int32)), .unset] [(.int (16 : Int32))])) rfl (hb hby at_190) rfl (by decide) (cap := 16) (by decide) (by decide) (by decide) (by decide)
      rw [← g230] at A230 st230
      have ne231 : b226 ≠ b230 := Nat.ne_of_lt (Nat.lt_of_lt_of_le Ex226.lt (Nat.le_of_eq g230.symm))
      have ne232 : d226 ≠ b230 := Nat.ne_of_lt (Nat.lt_of_lt_of_le V226.lt (Nat.le_of_eq g230.symm))
      have sfn230 := Safe.new (Z := Z) (EL := consts_1) (vm := T226.vm) (Nat.le_of_eq g230.symm)
      have sf233 := Safe.ext E230 hCR.1 sfn230
      have hCR := hCR.trans (CHr.ext E230 hCR.1)
      have hk := Nat.le_trans hk E230.1
      have gg230 : n0 ≤ b230 := Nat.le_trans Zs226 (Nat.le_of_eq g230.symm)
      have sz230 : h0.size ≤ b230 := Nat.le_trans K226.1 (Nat.le_of_eq g230.symm)
      have Zs230 : n0 ≤ h230.size := Nat.le_trans Zs226 E230.1
      have K230 : Keep h0 h230 [] := K226.ext E230
      have F234 := F227.ext E230
      have F235 := F228.ext E230
      have F236 := Ex226.ext E230
      have F237 := Fc226.ext E230
      have F238 := Fv226.ext E230
      have F239 := V226.ext E230
      have V230 : Arv Z h230 b230 k230 .char (16 : Int32) [(.int (0 : Int32)), (.int (0 : Int32)), (.int (0 : Int32)), (.int (0 : Int32)), (.int (0 : Int32)), (.int (0 : Int32)), (.int (0 : Int32)), (.int (0 : Int32)), (.int (0 : Int32)), (.int (0 : Int32)), (.int (0 : Int32)), (.int (0 : Int32)), (.int (0 : Int32)), (.int (0 : Int32)), (.int (0 : Int32)), (.int (0 : Int32))] (.int (0 : Int32)) := (Arv.new A230 (by decide)).pad (pad_rep [] (.int (0 : Int32)) 16)
      have k240 : ∀ t, Steps p.tables e below (T230.setTop (mkF m 205 #[.val (.int p0_0), .val (.int p0_1), .val (.int p0_2), .val (.int p0_3), .val (.int p0_4), .val (.int p0_5), .val (.int (1 : Int32)), .val (.int (0 : Int32)), .unset, .val (.ref b226), .val (.int (16 : Int32)), .val (.int (16 : Int32)), .val (.ref b230)] [(.int (p0_4 &&& (255 : Int32)).toUInt32.toUInt16.toUInt32.toInt32), (.ref b226), (.ref b230)])) t → Steps p.tables e below (s₁.setTop (entryFrame m #[(.int p0_0), (.int p0_1), (.int p0_2), (.int p0_3), (.int p0_4), (.int p0_5)] maxLocals)) t := by
        intro t k
        refine k1 t ?_
        refine XS.iload X0.here hx rfl (hb hby at_16) rfl ?_
        refine XS.iconst X0.here hx rfl (hb hby at_18) ?_
        refine XS.icmpYes X0.here hx rfl (pc0 := 19) (pc' := 114) rfl (hb hby at_19) rfl (feq (by decide : ¬ ((1 : Int32) = (3 : Int32)))).2 (by decide) (by decide) ?_
        refine XS.iload X0.here hx rfl (hb hby at_114) rfl ?_
        refine XS.ifYes X0.here hx rfl (pc0 := 116) (pc' := 124) rfl (hb hby at_116) rfl ((if0 _ _).trans (feq (by decide : ¬ ((1 : Int32) = (0 : Int32)))).2) (by decide) (by decide) ?_
        show Steps p.tables e below (s₁.setTop (mkF m 124 #[.val (.int p0_0), .val (.int p0_1), .val (.int p0_2), .val (.int p0_3), .val (.int p0_4), .val (.int p0_5), .val (.int (1 : Int32)), .val (.int (0 : Int32)), .unset, .unset, .unset, .unset, .unset] [])) _
        refine XS.iload X0.here hx rfl (hb hby at_124) rfl ?_
        refine XS.iconst X0.here hx rfl (hb hby at_126) ?_
        refine XS.icmpNo X0.here hx rfl (hb hby at_127) rfl (teq (by decide : (1 : Int32) = (1 : Int32))).2 ?_
        refine st226 _ ?_
        refine XS.goto X226.here hx rfl (pc0 := 132) (pc' := 137) rfl (hb hby at_132) (by decide) (by decide) ?_
        refine XS.astore X226.here hx rfl (hb hby at_137) rfl rfl (l' := #[.val (.int p0_0), .val (.int p0_1), .val (.int p0_2), .val (.int p0_3), .val (.int p0_4), .val (.int p0_5), .val (.int (1 : Int32)), .val (.int (0 : Int32)), .unset, .val (.ref b226), .unset, .unset, .unset]) rfl ?_
        refine XS.aload X226.here hx rfl (hb hby at_139) rfl rfl ?_
        refine st229.trans ?_
        refine XS.istore X229.here hx rfl (hb hby at_144) rfl (l' := #[.val (.int p0_0), .val (.int p0_1), .val (.int p0_2), .val (.int p0_3), .val (.int p0_4), .val (.int p0_5), .val (.int (1 : Int32)), .val (.int (0 : Int32)), .unset, .val (.ref b226), .val (.int (16 : Int32)), .unset, .unset]) rfl ?_
        refine XS.iload X229.here hx rfl (hb hby at_146) rfl ?_
        refine XS.iconst X229.here hx rfl (hb hby at_148) ?_
        refine XS.icmpYes X229.here hx rfl (pc0 := 149) (pc' := 158) rfl (hb hby at_149) rfl (feq (by decide : ¬ ((0 : Int32) = (4 : Int32)))).2 (by decide) (by decide) ?_
        refine XS.iload X229.here hx rfl (hb hby at_158) rfl ?_
        refine XS.iconst X229.here hx rfl (hb hby at_160) ?_
        refine XS.icmpYes X229.here hx rfl (pc0 := 161) (pc' := 171) rfl (hb hby at_161) rfl (feq (by decide : ¬ ((0 : Int32) = (2 : Int32)))).2 (by decide) (by decide) ?_
        refine XS.iload X229.here hx rfl (hb hby at_171) rfl ?_
        refine XS.iconst X229.here hx rfl (hb hby at_173) ?_
        refine XS.icmpYes X229.here hx rfl (pc0 := 174) (pc' := 184) rfl (hb hby at_174) rfl (feq (by decide : ¬ ((0 : Int32) = (3 : Int32)))).2 (by decide) (by decide) ?_
        show Steps p.tables e below (T229.setTop (mkF m 184 #[.val (.int p0_0), .val (.int p0_1), .val (.int p0_2), .val (.int p0_3), .val (.int p0_4), .val (.int p0_5), .val (.int (1 : Int32)), .val (.int (0 : Int32)), .unset, .val (.ref b226), .val (.int (16 : Int32)), .unset, .unset] [])) _
        refine XS.iload X229.here hx rfl (hb hby at_184) rfl ?_
        refine XS.istore X229.here hx rfl (hb hby at_186) rfl (l' := #[.val (.int p0_0), .val (.int p0_1), .val (.int p0_2), .val (.int p0_3), .val (.int p0_4), .val (.int p0_5), .val (.int (1 : Int32)), .val (.int (0 : Int32)), .unset, .val (.ref b226), .val (.int (16 : Int32)), .val (.int (16 : Int32)), .unset]) rfl ?_
        refine XS.iload X229.here hx rfl (hb hby at_188) rfl ?_
        refine st230 _ ?_
        refine XS.astore X230.here hx rfl (hb hby at_192) rfl rfl (l' := #[.val (.int p0_0), .val (.int p0_1), .val (.int p0_2), .val (.int p0_3), .val (.int p0_4), .val (.int p0_5), .val (.int (1 : Int32)), .val (.int (0 : Int32)), .unset, .val (.ref b226), .val (.int (16 : Int32)), .val (.int (16 : Int32)), .val (.ref b230)]) rfl ?_
        refine XS.aload X230.here hx rfl (hb hby at_194) rfl rfl ?_
        refine XS.aload X230.here hx rfl (hb hby at_196) rfl rfl ?_
        refine XS.iload X230.here hx rfl (hb hby at_198) rfl ?_
        refine XS.sipush X230.here hx rfl (hb hby at_200) ?_
        refine XS.iand X230.here hx rfl (hb hby at_203) rfl ?_
        refine XS.i2c X230.here hx rfl (hb hby at_204) rfl ?_
        exact k
      rw [show (p0_4 &&& (255 : Int32)).toUInt32.toUInt16.toUInt32.toInt32 = (p0_4 &&& (255 : Int32)) from own_i2c _ (own_m255 _)] at k240
      have Vr241 : Arv Z h230 b230 k230 .char (16 : Int32) (List.map Value.int (List.replicate 16 (0 : Int32))) (.int (0 : Int32)) := V230
      have Vl242 : Arv Z h230 d226 kb226 .byte (Int32.ofNat own_LT.length) (List.map Value.int (List.map (fun c => c.toInt8.toInt32) own_LT)) (.int (0 : Int32)) := own_lsT ▸ F239
      obtain ⟨_, _, ⟨T243, L243, k243, n243⟩, -, X243, ⟨Lc243, hQ243, l243, y243, z243⟩, st243⟩ := Jvm.LawKit.callS X230 hx (y := (⟨"com/example/leanweave/leanweave/QosMeasureOfColumnPinLaw", "fill", "([CLjava/lang/String;C)V"⟩ : MethodName)) hown (mvT hZ (wd hw 23 rfl)) (mvT hZ (wd hw 24 rfl)) (mvT hZ (wd hw 25 rfl)) (mvT hZ (wd hw 26 rfl)) (by decide) (backOf (W := 0) (rm4 l Z a0 hw [] b230 b226 (p0_4 &&& (255 : Int32)) k230 (16 : Int32) (List.replicate 16 (0 : Int32)) d226 kb226 own_LT cs fm h230 n0 Zs230 Vr241 F236 F238 F237 Vl242 F234 F235 (by decide : (List.replicate 16 (0 : Int32)).length = (16 : Int32).toNatClampNeg) (by decide : ∀ c ∈ (List.replicate 16 (0 : Int32)), ¬ c < 0 ∧ ¬ (255 : Int32) < c) (by decide : ∀ c ∈ own_LT, ¬ c < 0 ∧ ¬ (255 : Int32) < c) (by decide : own_LT.length ≤ 4000) hcs hfm (own_m255 _).1 (own_m255 _).2 ne231 ne232 gg230) hZ (wd hw 26 rfl) (wd hw 25 rfl) (by decide) (by decide)) (g := (mkF m 205 #[.val (.int p0_0), .val (.int p0_1), .val (.int p0_2), .val (.int p0_3), .val (.int p0_4), .val (.int p0_5), .val (.int (1 : Int32)), .val (.int (0 : Int32)), .unset, .val (.ref b226), .val (.int (16 : Int32)), .val (.int (16 : Int32)), .val (.ref b230)] [(.int (p0_4 &&& (255 : Int32))), (.ref b226), (.ref b230)])) rfl (by rw [hml]; rfl) (argsL := [(.ref b230), (.ref b226), (.int (p0_4 &&& (255 : Int32)))]) (rest := []) (lenOf pd_12 rfl) rfl (by show 2 * 0 + _ ≤ _; exact Nat.le_of_eq rfl) (hb hby at_205) (fun _ _ => ⟨rfl, e230, (by decide : 3 + 0 ≤ _), (by decide : 84 + 0 ≤ _)⟩)
      dsimp only [Pt.U, Pt.locs, Pt.cells, Pt.slots] at X243 l243 y243 z243 st243 hQ243
      rw [l243, y243, z243] at X243
      obtain ⟨cb_243, rfl, N243q, Kc243, G243_0, P243_0, P243_1⟩ := hQ243
      have Zs243 : n0 ≤ T243.heap.size := Nat.le_trans Zs230 Kc243.1
      have K243 : Keep h0 T243.heap [] := K230.trans Kc243 (allS (Or.inr sz230) all0)
      have sf244 := Safe.keep Kc243 (sfS (Safe.arv hZ.alike Vr241 (by decide)) sf0) hCR.1 sf233
      have hCR := hCR.trans (CHr.keep Kc243 (sfS (Safe.arv hZ.alike Vr241 (by decide)) sf0) hCR.1)
      have hk := Nat.le_trans hk Kc243.1
      have F245 := own_stakeep F234 Kc243 (allS (own_nsV Vr241) all0)
      have F246 := own_stakeep F235 Kc243 (allS (own_nsV Vr241) all0)
      have F247 := F236.keep Kc243
      have F248 := F237.keep Kc243 (ninS ne231 nin0)
      have F249 := F238.keep Kc243 (ninS ne231 nin0)
      have F250 := Vl242.keep Kc243 (ninS ne232 nin0)
      have N243 := Fr.app N229 N243q
      obtain ⟨b251, g251⟩ : ∃ z, z = T243.heap.size := ⟨_, rfl⟩
      obtain ⟨T251, h251, X251, e251, E251, A251, D251, -, st251⟩ := newO X243 hx hZ hown (wd hw 52 rfl) (wd hw 3 rfl) (wd hw 2 rfl) rfl (g := (mkF m 231 #[.val (.int p0_0), .val (.int p0_1), .val (.int p0_2), .val (.int p0_3), .val (.int p0_4), .val (.int p0_5), .val (.int (1 : Int32)), .val (.int (0 : Int32)), .unset, .val (.ref b226), .val (.int (16 : Int32)), .val (.int (16 : Int32)), .val (.ref b230)] [])) rfl (hb hby at_231) (by decide) (by decide)
      rw [← g251] at A251 D251 st251
      have ne252 : b226 ≠ b251 := Nat.ne_of_lt (Nat.lt_of_lt_of_le F247.lt (Nat.le_of_eq g251.symm))
      have ne253 : d226 ≠ b251 := Nat.ne_of_lt (Nat.lt_of_lt_of_le F250.lt (Nat.le_of_eq g251.symm))
      have ne254 : b230 ≠ b251 := Nat.ne_of_lt (Nat.lt_of_lt_of_le G243_0.lt (Nat.le_of_eq g251.symm))
      have sfn251 := Safe.new (Z := Z) (EL := consts_1) (vm := T226.vm) (Nat.le_of_eq g251.symm)
      have sf255 := Safe.ext E251 hCR.1 sf244
      have sf256 := Safe.ext E251 hCR.1 sfn251
      have hCR := hCR.trans (CHr.ext E251 hCR.1)
      have hk := Nat.le_trans hk E251.1
      have gg251 : n0 ≤ b251 := Nat.le_trans Zs243 (Nat.le_of_eq g251.symm)
      have sz251 : h0.size ≤ b251 := Nat.le_trans K243.1 (Nat.le_of_eq g251.symm)
      have Zs251 : n0 ≤ h251.size := Nat.le_trans Zs243 E251.1
      have K251 : Keep h0 h251 [] := K243.ext E251
      have F257 := F245.ext E251
      have F258 := F246.ext E251
      have F259 := F247.ext E251
      have F260 := F248.ext E251
      have F261 := F249.ext E251
      have F262 := F250.ext E251
      have F263 := G243_0.ext E251
      have F264 : Fld Z h251 b251 "java/lang/String" "value" "[B" .null := D251 (Or.inr (wd hw 5 rfl)) (ty := (.array .byte)) (by decide)
      have F265 : Fld Z h251 b251 "java/lang/String" "coder" "B" (.int (0 : Int32)) := D251 (Or.inr (wd hw 6 rfl)) (ty := .byte) (by decide)
      obtain ⟨_, _, ⟨T266, L266, k266, n266⟩, -, X266, ⟨Lc266, hQ266, l266, y266, z266⟩, st266⟩ := X251.specialBack hx (y := (⟨"java/lang/String", "<init>", "([C)V"⟩ : MethodName)) rfl hown (mvT hZ (wd hw 53 rfl)) (mvT hZ (wd hw 54 rfl)) (mvT hZ (wd hw 55 rfl)) (by decide) (StrChars.Road.backV (W := 1) hZ (fun d hd => hw d (own_sub_backV d hd)) (kI := 4) (wd hw 3 rfl) (cs := cb_243) (bs := cb_243.map (fun c => c.toInt8.toInt32)) (n := 16) gg251 Zs251 A251 F264 F265 F263 F257 hcs (P243_0.trans (by decide)) rfl (by decide) (by decide) P243_1 rfl (by decide) (by decide)) (g := (mkF m 237 #[.val (.int p0_0), .val (.int p0_1), .val (.int p0_2), .val (.int p0_3), .val (.int p0_4), .val (.int p0_5), .val (.int (1 : Int32)), .val (.int (0 : Int32)), .unset, .val (.ref b226), .val (.int (16 : Int32)), .val (.int (16 : Int32)), .val (.ref b230)] [(.ref b230), (.ref b251), (.ref b251)])) rfl (by rw [hml]; rfl) (Steps.refl _) (a := b251) (argsL := [(.ref b230)]) (rest := [(.ref b251)]) (lenOf pd_13 rfl) rfl (by show 2 * 0 + _ ≤ _; exact Nat.le_of_eq rfl) (hb hby at_237) (fun _ _ => ⟨rfl, e251, (by decide : 4 + 1 ≤ _), (by decide : 88 + 16 ≤ _)⟩)
      dsimp only [Pt.U, Pt.locs, Pt.cells, Pt.slots] at X266 l266 y266 z266 st266 hQ266
      rw [l266, y266, z266] at X266
      obtain ⟨rfl, N266q, Kc266, G266_0, G266_1, t266, kb266, ggt266, szt266, nex266, G266_2, G266_3⟩ := hQ266
      have szz266 : h0.size ≤ t266 := Nat.le_trans K251.1 szt266
      have Zs266 : n0 ≤ T266.heap.size := Nat.le_trans Zs251 Kc266.1
      have K266 : Keep h0 T266.heap [] := K251.trans Kc266 (allS (Or.inr sz251) all0)
      have sf267 := Safe.keep Kc266 (sfS sf256 sf0) hCR.1 sf255
      have sf268 := Safe.keep Kc266 (sfS sf256 sf0) hCR.1 sf256
      have hCR := hCR.trans (CHr.keep Kc266 (sfS sf256 sf0) hCR.1)
      have hk := Nat.le_trans hk Kc266.1
      have F269 := own_stakeep F257 Kc266 (allS (own_nsE A251) all0)
      have F270 := own_stakeep F258 Kc266 (allS (own_nsE A251) all0)
      have F271 := F259.keep Kc266
      have F272 := F260.keep Kc266 (ninS ne252 nin0)
      have F273 := F261.keep Kc266 (ninS ne252 nin0)
      have F274 := F262.keep Kc266 (ninS ne253 nin0)
      have F275 := F263.keep Kc266 (ninS ne254 nin0)
      have N266 := Fr.app N243 N266q
      have k276 : ∀ t, Steps p.tables e below (T266.setTop (mkF m 242 #[.val (.int p0_0), .val (.int p0_1), .val (.int p0_2), .val (.int p0_3), .val (.int p0_4), .val (.int p0_5), .val (.int (1 : Int32)), .val (.int (0 : Int32)), .val (.ref b251), .val (.ref b226), .val (.int (16 : Int32)), .val (.int (16 : Int32)), .val (.ref b230)] [])) t → Steps p.tables e below (s₁.setTop (entryFrame m #[(.int p0_0), (.int p0_1), (.int p0_2), (.int p0_3), (.int p0_4), (.int p0_5)] maxLocals)) t := by
        intro t k
        refine k240 t ?_
        refine st243 _ ?_
        refine XS.iload X243.here hx rfl (hb hby at_208) rfl ?_
        refine XS.iconst X243.here hx rfl (hb hby at_210) ?_
        refine XS.icmpYes X243.here hx rfl (pc0 := 211) (pc' := 231) rfl (hb hby at_211) rfl (feq (by decide : ¬ ((0 : Int32) = (1 : Int32)))).2 (by decide) (by decide) ?_
        refine st251 _ ?_
        refine XS.dup X251.here hx rfl (hb hby at_234) rfl rfl ?_
        refine XS.aload X251.here hx rfl (hb hby at_235) rfl rfl ?_
        show Steps p.tables e below (T251.setTop (mkF m 237 #[.val (.int p0_0), .val (.int p0_1), .val (.int p0_2), .val (.int p0_3), .val (.int p0_4), .val (.int p0_5), .val (.int (1 : Int32)), .val (.int (0 : Int32)), .unset, .val (.ref b226), .val (.int (16 : Int32)), .val (.int (16 : Int32)), .val (.ref b230)] [(.ref b230), (.ref b251), (.ref b251)])) _
        refine st266.trans ?_
        refine XS.astore X266.here hx rfl (hb hby at_240) rfl rfl (l' := #[.val (.int p0_0), .val (.int p0_1), .val (.int p0_2), .val (.int p0_3), .val (.int p0_4), .val (.int p0_5), .val (.int (1 : Int32)), .val (.int (0 : Int32)), .val (.ref b251), .val (.ref b226), .val (.int (16 : Int32)), .val (.int (16 : Int32)), .val (.ref b230)]) rfl ?_
        exact k
      obtain ⟨t_, o_, ss_, s2_, s3_, v_, L_, hv_, hq_, hf_⟩ := sgs1 hw hEL wS h0 p0_0 p0_1 p0_2 p0_3 p0_4 p0_5 (1 : Int32) (0 : Int32) b251 (.val (.int (16 : Int32))) (.val (.ref b230)) b226 (.val (.int (16 : Int32))) u_EMPTY u__VALUES cl_u__VALUES u_RESPONSE_TIME u_THROUGHPUT u_COST u_RESPONSE_TIME_column u_RESPONSE_TIME_column_value cl_u_RESPONSE_TIME_column_value u_THROUGHPUT_column u_THROUGHPUT_column_value cl_u_THROUGHPUT_column_value u_COST_column u_COST_column_value cl_u_COST_column_value cs t266 kb266 (16 : Int32) cb_243 T266.heap n0 Zs266 S_EMPTY E_u_EMPTY F_u_EMPTY_value S__VALUES E_u__VALUES S_RESPONSE_TIME E_u_RESPONSE_TIME S_THROUGHPUT E_u_THROUGHPUT S_COST E_u_COST F_u_RESPONSE_TIME_column E_u_RESPONSE_TIME_column F_u_RESPONSE_TIME_column_coder F_u_RESPONSE_TIME_column_value F_u_THROUGHPUT_column E_u_THROUGHPUT_column F_u_THROUGHPUT_column_coder F_u_THROUGHPUT_column_value F_u_COST_column E_u_COST_column F_u_COST_column_coder F_u_COST_column_value V_u__VALUES V_u_RESPONSE_TIME_column_value V_u_THROUGHPUT_column_value V_u_COST_column_value K266 F269 G266_0 G266_2 G266_1 G266_3 hcs (Or.inr ⟨_, rfl, rfl⟩) (by rw [P243_0]; rfl) P243_1 (by rw [P243_0]; decide) (X266.more (by decide) (by decide)) hx hZ hby hml hown Bd.returns (by first | assumption | exact BodyLoose.notSynchronized (by assumption) | exact Body.notSynchronized (by assumption)) rfl N266 hh hS hk hCR
      exact ⟨t_, o_, k276 _ ss_, s2_, s3_, v_, L_, hv_, hq_, hf_⟩
    · skip
      obtain ⟨b277, T277, h277, k277, d277, kb277, X277, e277, E277, hS, hk, hZ, hown, Ex277, Fc277, Fv277, V277, lta277, ltb277, hC277, hL277, hsf277, st277⟩ := ldcCH X0 hx hZ hown (wd hw 122 rfl) wS e0 hS hk hEL (List.mem_of_getElem? (i := 1) rfl) hCR.1 (vs := [(.int (116 : Int32)), (.int (104 : Int32)), (.int (114 : Int32)), (.int (111 : Int32)), (.int (117 : Int32)), (.int (103 : Int32)), (.int (104 : Int32)), (.int (112 : Int32)), (.int (117 : Int32)), (.int (116 : Int32)), (.int (95 : Int32)), (.int (112 : Int32)), (.int (101 : Int32)), (.int (114 : Int32)), (.int (95 : Int32)), (.int (115 : Int32))]) (z := (16 : Int32)) ⟨by decide, rfl⟩ (by decide) rfl (g := (mkF m 130 #[.val (.int p0_0), .val (.int p0_1), .val (.int p0_2), .val (.int p0_3), .val (.int p0_4), .val (.int p0_5), .val (.int (1 : Int32)), .val (.int (1 : Int32)), .unset, .unset, .unset, .unset, .unset] [])) rfl (hb hby at_130) (n := 64) (by decide) (by decide) (by decide) (by decide)
      have hCR := hCR.trans hC277
      have Zs277 : n0 ≤ h277.size := Nat.le_trans Z0 E277.1
      have K277 : Keep h0 h277 [] := (Keep.refl h0 []).ext E277
      have F278 := Sc.ext E277
      have F279 := Sf.ext E277
      obtain ⟨cq280, kq280, q280a, q280b, q280c⟩ := isOf hZ e277 Ex277
      obtain ⟨_, _, ⟨T280, L280, k280, n280⟩, -, X280, ⟨Lc280, hQ280, l280, y280, z280⟩, st280⟩ := X277.virtualBack hx (y := (⟨"java/lang/String", "length", "()I"⟩ : MethodName)) (z := (⟨"java/lang/String", "length", "()I"⟩ : MethodName)) hown (mvT hZ (wd hw 9 rfl)) (mvT hZ (wd hw 10 rfl)) (notFace_of_selects (args := #[]) (mvT hZ (wd hw 12 rfl))) (mvT hZ (wd hw 12 rfl)) (mvT hZ (wd hw 11 rfl)) (by decide) (StrChars.Road.lenW (W := 0) hZ (fun d hd => hw d (own_sub_lenW d hd)) (kI := 4) (wd hw 3 rfl) (cs := own_LT) Ex277 Fv277 Fc277 V277 own_codT own_bdT F278 hcs (by decide) (by decide) (by decide)) q280a q280c (g := (mkF m 141 #[.val (.int p0_0), .val (.int p0_1), .val (.int p0_2), .val (.int p0_3), .val (.int p0_4), .val (.int p0_5), .val (.int (1 : Int32)), .val (.int (1 : Int32)), .unset, .val (.ref b277), .unset, .unset, .unset] [(.ref b277)])) rfl (by rw [hml]; rfl) (Steps.refl _) (argsL := []) (rest := []) (lenOf pd_1 rfl) rfl (by show 2 * 0 + _ ≤ _; exact Nat.le_of_eq rfl) (hb hby at_141) (fun _ _ => ⟨rfl, e277, (by decide : 2 + 0 ≤ _), (by decide : 68 + 0 ≤ _)⟩)
      dsimp only [Pt.U, Pt.locs, Pt.cells, Pt.slots] at X280 l280 y280 z280 st280 hQ280
      rw [l280, y280, z280] at X280
      obtain ⟨rfl, rfl, eh280⟩ := hQ280
      have N280 := Fr.app N0 (Fr.nil n0)
      obtain ⟨b281, g281⟩ : ∃ z, z = h277.size := ⟨_, rfl⟩
      obtain ⟨T281, h281, k281, X281, e281, E281, A281, st281⟩ := newP X280 hx hZ (wd hw 22 rfl) eh280 (g := (mkF m 190 #[.val (.int p0_0), .val (.int p0_1), .val (.int p0_2), .val (.int p0_3), .val (.int p0_4), .val (.int p0_5), .val (.int (1 : Int32)), .val (.int (1 : Int32)), .unset, .val (.ref b277), .val (.int (16 : Int32)), .val (.int (16 : Int32)), .unset] [(.int (16 : Int32))])) rfl (hb hby at_190) rfl (by decide) (cap := 16) (by decide) (by decide) (by decide) (by decide)
      rw [← g281] at A281 st281
      have ne282 : b277 ≠ b281 := Nat.ne_of_lt (Nat.lt_of_lt_of_le Ex277.lt (Nat.le_of_eq g281.symm))
      have ne283 : d277 ≠ b281 := Nat.ne_of_lt (Nat.lt_of_lt_of_le V277.lt (Nat.le_of_eq g281.symm))
      have sfn281 := Safe.new (Z := Z) (EL := consts_1) (vm := T277.vm) (Nat.le_of_eq g281.symm)
      have sf284 := Safe.ext E281 hCR.1 sfn281
      have hCR := hCR.trans (CHr.ext E281 hCR.1)
      have hk := Nat.le_trans hk E281.1
      have gg281 : n0 ≤ b281 := Nat.le_trans Zs277 (Nat.le_of_eq g281.symm)
      have sz281 : h0.size ≤ b281 := Nat.le_trans K277.1 (Nat.le_of_eq g281.symm)
      have Zs281 : n0 ≤ h281.size := Nat.le_trans Zs277 E281.1
      have K281 : Keep h0 h281 [] := K277.ext E281
      have F285 := F278.ext E281
      have F286 := F279.ext E281
      have F287 := Ex277.ext E281
      have F288 := Fc277.ext E281
      have F289 := Fv277.ext E281
      have F290 := V277.ext E281
      have V281 : Arv Z h281 b281 k281 .char (16 : Int32) [(.int (0 : Int32)), (.int (0 : Int32)), (.int (0 : Int32)), (.int (0 : Int32)), (.int (0 : Int32)), (.int (0 : Int32)), (.int (0 : Int32)), (.int (0 : Int32)), (.int (0 : Int32)), (.int (0 : Int32)), (.int (0 : Int32)), (.int (0 : Int32)), (.int (0 : Int32)), (.int (0 : Int32)), (.int (0 : Int32)), (.int (0 : Int32))] (.int (0 : Int32)) := (Arv.new A281 (by decide)).pad (pad_rep [] (.int (0 : Int32)) 16)
      have k291 : ∀ t, Steps p.tables e below (T281.setTop (mkF m 205 #[.val (.int p0_0), .val (.int p0_1), .val (.int p0_2), .val (.int p0_3), .val (.int p0_4), .val (.int p0_5), .val (.int (1 : Int32)), .val (.int (1 : Int32)), .unset, .val (.ref b277), .val (.int (16 : Int32)), .val (.int (16 : Int32)), .val (.ref b281)] [(.int (p0_4 &&& (255 : Int32)).toUInt32.toUInt16.toUInt32.toInt32), (.ref b277), (.ref b281)])) t → Steps p.tables e below (s₁.setTop (entryFrame m #[(.int p0_0), (.int p0_1), (.int p0_2), (.int p0_3), (.int p0_4), (.int p0_5)] maxLocals)) t := by
        intro t k
        refine k1 t ?_
        refine XS.iload X0.here hx rfl (hb hby at_16) rfl ?_
        refine XS.iconst X0.here hx rfl (hb hby at_18) ?_
        refine XS.icmpYes X0.here hx rfl (pc0 := 19) (pc' := 114) rfl (hb hby at_19) rfl (feq (by decide : ¬ ((1 : Int32) = (3 : Int32)))).2 (by decide) (by decide) ?_
        refine XS.iload X0.here hx rfl (hb hby at_114) rfl ?_
        refine XS.ifYes X0.here hx rfl (pc0 := 116) (pc' := 124) rfl (hb hby at_116) rfl ((if0 _ _).trans (feq (by decide : ¬ ((1 : Int32) = (0 : Int32)))).2) (by decide) (by decide) ?_
        show Steps p.tables e below (s₁.setTop (mkF m 124 #[.val (.int p0_0), .val (.int p0_1), .val (.int p0_2), .val (.int p0_3), .val (.int p0_4), .val (.int p0_5), .val (.int (1 : Int32)), .val (.int (1 : Int32)), .unset, .unset, .unset, .unset, .unset] [])) _
        refine XS.iload X0.here hx rfl (hb hby at_124) rfl ?_
        refine XS.iconst X0.here hx rfl (hb hby at_126) ?_
        refine XS.icmpNo X0.here hx rfl (hb hby at_127) rfl (teq (by decide : (1 : Int32) = (1 : Int32))).2 ?_
        refine st277 _ ?_
        refine XS.goto X277.here hx rfl (pc0 := 132) (pc' := 137) rfl (hb hby at_132) (by decide) (by decide) ?_
        refine XS.astore X277.here hx rfl (hb hby at_137) rfl rfl (l' := #[.val (.int p0_0), .val (.int p0_1), .val (.int p0_2), .val (.int p0_3), .val (.int p0_4), .val (.int p0_5), .val (.int (1 : Int32)), .val (.int (1 : Int32)), .unset, .val (.ref b277), .unset, .unset, .unset]) rfl ?_
        refine XS.aload X277.here hx rfl (hb hby at_139) rfl rfl ?_
        refine st280.trans ?_
        refine XS.istore X280.here hx rfl (hb hby at_144) rfl (l' := #[.val (.int p0_0), .val (.int p0_1), .val (.int p0_2), .val (.int p0_3), .val (.int p0_4), .val (.int p0_5), .val (.int (1 : Int32)), .val (.int (1 : Int32)), .unset, .val (.ref b277), .val (.int (16 : Int32)), .unset, .unset]) rfl ?_
        refine XS.iload X280.here hx rfl (hb hby at_146) rfl ?_
        refine XS.iconst X280.here hx rfl (hb hby at_148) ?_
        refine XS.icmpYes X280.here hx rfl (pc0 := 149) (pc' := 158) rfl (hb hby at_149) rfl (feq (by decide : ¬ ((1 : Int32) = (4 : Int32)))).2 (by decide) (by decide) ?_
        refine XS.iload X280.here hx rfl (hb hby at_158) rfl ?_
        refine XS.iconst X280.here hx rfl (hb hby at_160) ?_
        refine XS.icmpYes X280.here hx rfl (pc0 := 161) (pc' := 171) rfl (hb hby at_161) rfl (feq (by decide : ¬ ((1 : Int32) = (2 : Int32)))).2 (by decide) (by decide) ?_
        refine XS.iload X280.here hx rfl (hb hby at_171) rfl ?_
        refine XS.iconst X280.here hx rfl (hb hby at_173) ?_
        refine XS.icmpYes X280.here hx rfl (pc0 := 174) (pc' := 184) rfl (hb hby at_174) rfl (feq (by decide : ¬ ((1 : Int32) = (3 : Int32)))).2 (by decide) (by decide) ?_
        show Steps p.tables e below (T280.setTop (mkF m 184 #[.val (.int p0_0), .val (.int p0_1), .val (.int p0_2), .val (.int p0_3), .val (.int p0_4), .val (.int p0_5), .val (.int (1 : Int32)), .val (.int (1 : Int32)), .unset, .val (.ref b277), .val (.int (16 : Int32)), .unset, .unset] [])) _
        refine XS.iload X280.here hx rfl (hb hby at_184) rfl ?_
        refine XS.istore X280.here hx rfl (hb hby at_186) rfl (l' := #[.val (.int p0_0), .val (.int p0_1), .val (.int p0_2), .val (.int p0_3), .val (.int p0_4), .val (.int p0_5), .val (.int (1 : Int32)), .val (.int (1 : Int32)), .unset, .val (.ref b277), .val (.int (16 : Int32)), .val (.int (16 : Int32)), .unset]) rfl ?_
        refine XS.iload X280.here hx rfl (hb hby at_188) rfl ?_
        refine st281 _ ?_
        refine XS.astore X281.here hx rfl (hb hby at_192) rfl rfl (l' := #[.val (.int p0_0), .val (.int p0_1), .val (.int p0_2), .val (.int p0_3), .val (.int p0_4), .val (.int p0_5), .val (.int (1 : Int32)), .val (.int (1 : Int32)), .unset, .val (.ref b277), .val (.int (16 : Int32)), .val (.int (16 : Int32)), .val (.ref b281)]) rfl ?_
        refine XS.aload X281.here hx rfl (hb hby at_194) rfl rfl ?_
        refine XS.aload X281.here hx rfl (hb hby at_196) rfl rfl ?_
        refine XS.iload X281.here hx rfl (hb hby at_198) rfl ?_
        refine XS.sipush X281.here hx rfl (hb hby at_200) ?_
        refine XS.iand X281.here hx rfl (hb hby at_203) rfl ?_
        refine XS.i2c X281.here hx rfl (hb hby at_204) rfl ?_
        exact k
      rw [show (p0_4 &&& (255 : Int32)).toUInt32.toUInt16.toUInt32.toInt32 = (p0_4 &&& (255 : Int32)) from own_i2c _ (own_m255 _)] at k291
      have Vr292 : Arv Z h281 b281 k281 .char (16 : Int32) (List.map Value.int (List.replicate 16 (0 : Int32))) (.int (0 : Int32)) := V281
      have Vl293 : Arv Z h281 d277 kb277 .byte (Int32.ofNat own_LT.length) (List.map Value.int (List.map (fun c => c.toInt8.toInt32) own_LT)) (.int (0 : Int32)) := own_lsT ▸ F290
      obtain ⟨_, _, ⟨T294, L294, k294, n294⟩, -, X294, ⟨Lc294, hQ294, l294, y294, z294⟩, st294⟩ := Jvm.LawKit.callS X281 hx (y := (⟨"com/example/leanweave/leanweave/QosMeasureOfColumnPinLaw", "fill", "([CLjava/lang/String;C)V"⟩ : MethodName)) hown (mvT hZ (wd hw 23 rfl)) (mvT hZ (wd hw 24 rfl)) (mvT hZ (wd hw 25 rfl)) (mvT hZ (wd hw 26 rfl)) (by decide) (backOf (W := 0) (rm4 l Z a0 hw [] b281 b277 (p0_4 &&& (255 : Int32)) k281 (16 : Int32) (List.replicate 16 (0 : Int32)) d277 kb277 own_LT cs fm h281 n0 Zs281 Vr292 F287 F289 F288 Vl293 F285 F286 (by decide : (List.replicate 16 (0 : Int32)).length = (16 : Int32).toNatClampNeg) (by decide : ∀ c ∈ (List.replicate 16 (0 : Int32)), ¬ c < 0 ∧ ¬ (255 : Int32) < c) (by decide : ∀ c ∈ own_LT, ¬ c < 0 ∧ ¬ (255 : Int32) < c) (by decide : own_LT.length ≤ 4000) hcs hfm (own_m255 _).1 (own_m255 _).2 ne282 ne283 gg281) hZ (wd hw 26 rfl) (wd hw 25 rfl) (by decide) (by decide)) (g := (mkF m 205 #[.val (.int p0_0), .val (.int p0_1), .val (.int p0_2), .val (.int p0_3), .val (.int p0_4), .val (.int p0_5), .val (.int (1 : Int32)), .val (.int (1 : Int32)), .unset, .val (.ref b277), .val (.int (16 : Int32)), .val (.int (16 : Int32)), .val (.ref b281)] [(.int (p0_4 &&& (255 : Int32))), (.ref b277), (.ref b281)])) rfl (by rw [hml]; rfl) (argsL := [(.ref b281), (.ref b277), (.int (p0_4 &&& (255 : Int32)))]) (rest := []) (lenOf pd_12 rfl) rfl (by show 2 * 0 + _ ≤ _; exact Nat.le_of_eq rfl) (hb hby at_205) (fun _ _ => ⟨rfl, e281, (by decide : 3 + 0 ≤ _), (by decide : 84 + 0 ≤ _)⟩)
      dsimp only [Pt.U, Pt.locs, Pt.cells, Pt.slots] at X294 l294 y294 z294 st294 hQ294
      rw [l294, y294, z294] at X294
      obtain ⟨cb_294, rfl, N294q, Kc294, G294_0, P294_0, P294_1⟩ := hQ294
      have Zs294 : n0 ≤ T294.heap.size := Nat.le_trans Zs281 Kc294.1
      have K294 : Keep h0 T294.heap [] := K281.trans Kc294 (allS (Or.inr sz281) all0)
      have sf295 := Safe.keep Kc294 (sfS (Safe.arv hZ.alike Vr292 (by decide)) sf0) hCR.1 sf284
      have hCR := hCR.trans (CHr.keep Kc294 (sfS (Safe.arv hZ.alike Vr292 (by decide)) sf0) hCR.1)
      have hk := Nat.le_trans hk Kc294.1
      have F296 := own_stakeep F285 Kc294 (allS (own_nsV Vr292) all0)
      have F297 := own_stakeep F286 Kc294 (allS (own_nsV Vr292) all0)
      have F298 := F287.keep Kc294
      have F299 := F288.keep Kc294 (ninS ne282 nin0)
      have F300 := F289.keep Kc294 (ninS ne282 nin0)
      have F301 := Vl293.keep Kc294 (ninS ne283 nin0)
      have N294 := Fr.app N280 N294q
      have k302 : ∀ t, Steps p.tables e below (T294.setTop (mkF m 223 #[.val (.int p0_0), .val (.int p0_1), .val (.int p0_2), .val (.int p0_3), .val (.int p0_4), .val (.int p0_5), .val (.int (1 : Int32)), .val (.int (1 : Int32)), .unset, .val (.ref b277), .val (.int (16 : Int32)), .val (.int (16 : Int32)), .val (.ref b281)] [(.int ((p0_2 &&& (2147483647 : Int32)) % (16 : Int32))), (.ref b281)])) t → Steps p.tables e below (s₁.setTop (entryFrame m #[(.int p0_0), (.int p0_1), (.int p0_2), (.int p0_3), (.int p0_4), (.int p0_5)] maxLocals)) t := by
        intro t k
        refine k291 t ?_
        refine st294 _ ?_
        refine XS.iload X294.here hx rfl (hb hby at_208) rfl ?_
        refine XS.iconst X294.here hx rfl (hb hby at_210) ?_
        refine XS.icmpNo X294.here hx rfl (hb hby at_211) rfl (teq (by decide : (1 : Int32) = (1 : Int32))).2 ?_
        refine XS.aload X294.here hx rfl (hb hby at_214) rfl rfl ?_
        refine XS.iloadN X294.here hx rfl (hb hby at_216) rfl ?_
        refine X294.ldcInt hx hown (mvT hZ (hw _ (List.mem_of_getElem? (i := 0) rfl))) (g := (mkF m 217 #[.val (.int p0_0), .val (.int p0_1), .val (.int p0_2), .val (.int p0_3), .val (.int p0_4), .val (.int p0_5), .val (.int (1 : Int32)), .val (.int (1 : Int32)), .unset, .val (.ref b277), .val (.int (16 : Int32)), .val (.int (16 : Int32)), .val (.ref b281)] [(.int p0_2), (.ref b281)])) rfl (hb hby at_217) _ ?_
        show Steps p.tables e below (T294.setTop (mkF m 219 #[.val (.int p0_0), .val (.int p0_1), .val (.int p0_2), .val (.int p0_3), .val (.int p0_4), .val (.int p0_5), .val (.int (1 : Int32)), .val (.int (1 : Int32)), .unset, .val (.ref b277), .val (.int (16 : Int32)), .val (.int (16 : Int32)), .val (.ref b281)] [(.int (2147483647 : Int32)), (.int p0_2), (.ref b281)])) _
        refine XS.iand X294.here hx rfl (hb hby at_219) rfl ?_
        refine XS.iload X294.here hx rfl (hb hby at_220) rfl ?_
        refine iremM X294 hx rfl (hb hby at_222) rfl (by decide) ?_
        exact k
      obtain ⟨zj, hzj⟩ : ∃ z, z = ((p0_2 &&& (2147483647 : Int32)) % (16 : Int32)) := ⟨_, rfl⟩
      rw [← hzj] at k302
      have hj0 := own_ji16 p0_2
      rw [← hzj] at hj0
      have k303 : ∀ t, Steps p.tables e below (T294.setTop (mkF m 230 #[.val (.int p0_0), .val (.int p0_1), .val (.int p0_2), .val (.int p0_3), .val (.int p0_4), .val (.int p0_5), .val (.int (1 : Int32)), .val (.int (1 : Int32)), .unset, .val (.ref b277), .val (.int (16 : Int32)), .val (.int (16 : Int32)), .val (.ref b281)] [(.int (p0_5 &&& (255 : Int32)).toUInt32.toUInt16.toUInt32.toInt32), (.int zj), (.ref b281)])) t → Steps p.tables e below (s₁.setTop (entryFrame m #[(.int p0_0), (.int p0_1), (.int p0_2), (.int p0_3), (.int p0_4), (.int p0_5)] maxLocals)) t := by
        intro t k
        refine k302 t ?_
        refine XS.iload X294.here hx rfl (hb hby at_223) rfl ?_
        refine XS.sipush X294.here hx rfl (hb hby at_225) ?_
        refine XS.iand X294.here hx rfl (hb hby at_228) rfl ?_
        refine XS.i2c X294.here hx rfl (hb hby at_229) rfl ?_
        exact k
      rw [show (p0_5 &&& (255 : Int32)).toUInt32.toUInt16.toUInt32.toInt32 = (p0_5 &&& (255 : Int32)) from own_i2c _ (own_m255 _)] at k303
      obtain ⟨cl304, Ar304, qc304, Sz304, Nn304, Hh304, Gg304⟩ := (id G294_0)
      have hin304 : ¬ (zj < 0 ∨ cl304.slots.size ≤ (zj).toNatClampNeg) := inb_of Sz304 ⟨hj0.1, hj0.2⟩
      obtain ⟨T304, h304, X304, e304, W304, st304⟩ := stC X294 hx hZ rfl Ar304 (j := zj) hin304 (g := (mkF m 230 #[.val (.int p0_0), .val (.int p0_1), .val (.int p0_2), .val (.int p0_3), .val (.int p0_4), .val (.int p0_5), .val (.int (1 : Int32)), .val (.int (1 : Int32)), .unset, .val (.ref b277), .val (.int (16 : Int32)), .val (.int (16 : Int32)), .val (.ref b281)] [(.int (p0_5 &&& (255 : Int32))), (.int zj), (.ref b281)])) rfl rfl (hb hby at_230)
      have sf305 := Safe.wr W304 (Safe.arv hZ.alike G294_0 (by decide)) hCR.1 sf295
      have hCR := hCR.trans (CHr.wr W304 (Safe.arv hZ.alike G294_0 (by decide)) hCR.1)
      have hk := Nat.le_trans hk (Nat.le_of_eq W304.size.symm)
      have F306 := F296.wr W304
      have F307 := F297.wr W304
      have F308 := F298.wr W304
      have F309 := F299.other W304 (Or.inl ne282)
      have F310 := F300.other W304 (Or.inl ne282)
      have F311 := F301.other W304 ne283
      have V304 := own_setL Ar304 qc304 Sz304 Nn304 Hh304 Gg304 (own_m255 _) W304 P294_0 hj0.1 hj0.2
      have N304 := Fr.snoc X304 N294 gg281
      have K304 : Keep h0 h304 [] := K294.wr W304 (Or.inr sz281)
      have Zs304 : n0 ≤ h304.size := by rw [W304.size]; exact Zs294
      obtain ⟨lq313, hd313⟩ : ∃ z, z = (cb_294.set (zj).toNatClampNeg (p0_5 &&& (255 : Int32))) := ⟨_, rfl⟩
      rw [← hd313] at V304
      have hle313 : lq313.length = (16 : Int32).toNatClampNeg := by rw [hd313]; exact own_setlen P294_0
      have hbe313 : ∀ c ∈ lq313, ¬ c < 0 ∧ ¬ (255 : Int32) < c := by rw [hd313]; exact own_setall P294_1 (own_m255 _)
      obtain ⟨b314, g314⟩ : ∃ z, z = h304.size := ⟨_, rfl⟩
      obtain ⟨T314, h314, X314, e314, E314, A314, D314, -, st314⟩ := newO X304 hx hZ hown (wd hw 52 rfl) (wd hw 3 rfl) (wd hw 2 rfl) e304 (g := (mkF m 231 #[.val (.int p0_0), .val (.int p0_1), .val (.int p0_2), .val (.int p0_3), .val (.int p0_4), .val (.int p0_5), .val (.int (1 : Int32)), .val (.int (1 : Int32)), .unset, .val (.ref b277), .val (.int (16 : Int32)), .val (.int (16 : Int32)), .val (.ref b281)] [])) rfl (hb hby at_231) (by decide) (by decide)
      rw [← g314] at A314 D314 st314
      have ne315 : b277 ≠ b314 := Nat.ne_of_lt (Nat.lt_of_lt_of_le F308.lt (Nat.le_of_eq g314.symm))
      have ne316 : d277 ≠ b314 := Nat.ne_of_lt (Nat.lt_of_lt_of_le F311.lt (Nat.le_of_eq g314.symm))
      have ne317 : b281 ≠ b314 := Nat.ne_of_lt (Nat.lt_of_lt_of_le V304.lt (Nat.le_of_eq g314.symm))
      have sfn314 := Safe.new (Z := Z) (EL := consts_1) (vm := T277.vm) (Nat.le_of_eq g314.symm)
      have sf318 := Safe.ext E314 hCR.1 sf305
      have sf319 := Safe.ext E314 hCR.1 sfn314
      have hCR := hCR.trans (CHr.ext E314 hCR.1)
      have hk := Nat.le_trans hk E314.1
      have gg314 : n0 ≤ b314 := Nat.le_trans Zs304 (Nat.le_of_eq g314.symm)
      have sz314 : h0.size ≤ b314 := Nat.le_trans K304.1 (Nat.le_of_eq g314.symm)
      have Zs314 : n0 ≤ h314.size := Nat.le_trans Zs304 E314.1
      have K314 : Keep h0 h314 [] := K304.ext E314
      have F320 := F306.ext E314
      have F321 := F307.ext E314
      have F322 := F308.ext E314
      have F323 := F309.ext E314
      have F324 := F310.ext E314
      have F325 := F311.ext E314
      have F326 := V304.ext E314
      have F327 : Fld Z h314 b314 "java/lang/String" "value" "[B" .null := D314 (Or.inr (wd hw 5 rfl)) (ty := (.array .byte)) (by decide)
      have F328 : Fld Z h314 b314 "java/lang/String" "coder" "B" (.int (0 : Int32)) := D314 (Or.inr (wd hw 6 rfl)) (ty := .byte) (by decide)
      obtain ⟨_, _, ⟨T329, L329, k329, n329⟩, -, X329, ⟨Lc329, hQ329, l329, y329, z329⟩, st329⟩ := X314.specialBack hx (y := (⟨"java/lang/String", "<init>", "([C)V"⟩ : MethodName)) rfl hown (mvT hZ (wd hw 53 rfl)) (mvT hZ (wd hw 54 rfl)) (mvT hZ (wd hw 55 rfl)) (by decide) (StrChars.Road.backV (W := 1) hZ (fun d hd => hw d (own_sub_backV d hd)) (kI := 4) (wd hw 3 rfl) (cs := lq313) (bs := lq313.map (fun c => c.toInt8.toInt32)) (n := 16) gg314 Zs314 A314 F327 F328 F326 F320 hcs (hle313.trans (by decide)) rfl (by decide) (by decide) hbe313 rfl (by decide) (by decide)) (g := (mkF m 237 #[.val (.int p0_0), .val (.int p0_1), .val (.int p0_2), .val (.int p0_3), .val (.int p0_4), .val (.int p0_5), .val (.int (1 : Int32)), .val (.int (1 : Int32)), .unset, .val (.ref b277), .val (.int (16 : Int32)), .val (.int (16 : Int32)), .val (.ref b281)] [(.ref b281), (.ref b314), (.ref b314)])) rfl (by rw [hml]; rfl) (Steps.refl _) (a := b314) (argsL := [(.ref b281)]) (rest := [(.ref b314)]) (lenOf pd_13 rfl) rfl (by show 2 * 0 + _ ≤ _; exact Nat.le_of_eq rfl) (hb hby at_237) (fun _ _ => ⟨rfl, e314, (by decide : 4 + 1 ≤ _), (by decide : 88 + 16 ≤ _)⟩)
      dsimp only [Pt.U, Pt.locs, Pt.cells, Pt.slots] at X329 l329 y329 z329 st329 hQ329
      rw [l329, y329, z329] at X329
      obtain ⟨rfl, N329q, Kc329, G329_0, G329_1, t329, kb329, ggt329, szt329, nex329, G329_2, G329_3⟩ := hQ329
      have szz329 : h0.size ≤ t329 := Nat.le_trans K314.1 szt329
      have Zs329 : n0 ≤ T329.heap.size := Nat.le_trans Zs314 Kc329.1
      have K329 : Keep h0 T329.heap [] := K314.trans Kc329 (allS (Or.inr sz314) all0)
      have sf330 := Safe.keep Kc329 (sfS sf319 sf0) hCR.1 sf318
      have sf331 := Safe.keep Kc329 (sfS sf319 sf0) hCR.1 sf319
      have hCR := hCR.trans (CHr.keep Kc329 (sfS sf319 sf0) hCR.1)
      have hk := Nat.le_trans hk Kc329.1
      have F332 := own_stakeep F320 Kc329 (allS (own_nsE A314) all0)
      have F333 := own_stakeep F321 Kc329 (allS (own_nsE A314) all0)
      have F334 := F322.keep Kc329
      have F335 := F323.keep Kc329 (ninS ne315 nin0)
      have F336 := F324.keep Kc329 (ninS ne315 nin0)
      have F337 := F325.keep Kc329 (ninS ne316 nin0)
      have F338 := F326.keep Kc329 (ninS ne317 nin0)
      have N329 := Fr.app N304 N329q
      have k339 : ∀ t, Steps p.tables e below (T329.setTop (mkF m 242 #[.val (.int p0_0), .val (.int p0_1), .val (.int p0_2), .val (.int p0_3), .val (.int p0_4), .val (.int p0_5), .val (.int (1 : Int32)), .val (.int (1 : Int32)), .val (.ref b314), .val (.ref b277), .val (.int (16 : Int32)), .val (.int (16 : Int32)), .val (.ref b281)] [])) t → Steps p.tables e below (s₁.setTop (entryFrame m #[(.int p0_0), (.int p0_1), (.int p0_2), (.int p0_3), (.int p0_4), (.int p0_5)] maxLocals)) t := by
        intro t k
        refine k303 t ?_
        refine st304 _ ?_
        refine st314 _ ?_
        refine XS.dup X314.here hx rfl (hb hby at_234) rfl rfl ?_
        refine XS.aload X314.here hx rfl (hb hby at_235) rfl rfl ?_
        refine st329.trans ?_
        refine XS.astore X329.here hx rfl (hb hby at_240) rfl rfl (l' := #[.val (.int p0_0), .val (.int p0_1), .val (.int p0_2), .val (.int p0_3), .val (.int p0_4), .val (.int p0_5), .val (.int (1 : Int32)), .val (.int (1 : Int32)), .val (.ref b314), .val (.ref b277), .val (.int (16 : Int32)), .val (.int (16 : Int32)), .val (.ref b281)]) rfl ?_
        exact k
      obtain ⟨t_, o_, ss_, s2_, s3_, v_, L_, hv_, hq_, hf_⟩ := sgs1 hw hEL wS h0 p0_0 p0_1 p0_2 p0_3 p0_4 p0_5 (1 : Int32) (1 : Int32) b314 (.val (.int (16 : Int32))) (.val (.ref b281)) b277 (.val (.int (16 : Int32))) u_EMPTY u__VALUES cl_u__VALUES u_RESPONSE_TIME u_THROUGHPUT u_COST u_RESPONSE_TIME_column u_RESPONSE_TIME_column_value cl_u_RESPONSE_TIME_column_value u_THROUGHPUT_column u_THROUGHPUT_column_value cl_u_THROUGHPUT_column_value u_COST_column u_COST_column_value cl_u_COST_column_value cs t329 kb329 (16 : Int32) lq313 T329.heap n0 Zs329 S_EMPTY E_u_EMPTY F_u_EMPTY_value S__VALUES E_u__VALUES S_RESPONSE_TIME E_u_RESPONSE_TIME S_THROUGHPUT E_u_THROUGHPUT S_COST E_u_COST F_u_RESPONSE_TIME_column E_u_RESPONSE_TIME_column F_u_RESPONSE_TIME_column_coder F_u_RESPONSE_TIME_column_value F_u_THROUGHPUT_column E_u_THROUGHPUT_column F_u_THROUGHPUT_column_coder F_u_THROUGHPUT_column_value F_u_COST_column E_u_COST_column F_u_COST_column_coder F_u_COST_column_value V_u__VALUES V_u_RESPONSE_TIME_column_value V_u_THROUGHPUT_column_value V_u_COST_column_value K329 F332 G329_0 G329_2 G329_1 G329_3 hcs (Or.inr ⟨_, rfl, rfl⟩) (by rw [hle313]; rfl) hbe313 (by rw [hle313]; decide) (X329.more (by decide) (by decide)) hx hZ hby hml hown Bd.returns (by first | assumption | exact BodyLoose.notSynchronized (by assumption) | exact Body.notSynchronized (by assumption)) rfl N329 hh hS hk hCR
      exact ⟨t_, o_, k339 _ ss_, s2_, s3_, v_, L_, hv_, hq_, hf_⟩
    · skip
      obtain ⟨b340, T340, h340, k340, d340, kb340, X340, e340, E340, hS, hk, hZ, hown, Ex340, Fc340, Fv340, V340, lta340, ltb340, hC340, hL340, hsf340, st340⟩ := ldcCH X0 hx hZ hown (wd hw 122 rfl) wS e0 hS hk hEL (List.mem_of_getElem? (i := 1) rfl) hCR.1 (vs := [(.int (116 : Int32)), (.int (104 : Int32)), (.int (114 : Int32)), (.int (111 : Int32)), (.int (117 : Int32)), (.int (103 : Int32)), (.int (104 : Int32)), (.int (112 : Int32)), (.int (117 : Int32)), (.int (116 : Int32)), (.int (95 : Int32)), (.int (112 : Int32)), (.int (101 : Int32)), (.int (114 : Int32)), (.int (95 : Int32)), (.int (115 : Int32))]) (z := (16 : Int32)) ⟨by decide, rfl⟩ (by decide) rfl (g := (mkF m 130 #[.val (.int p0_0), .val (.int p0_1), .val (.int p0_2), .val (.int p0_3), .val (.int p0_4), .val (.int p0_5), .val (.int (1 : Int32)), .val (.int (2 : Int32)), .unset, .unset, .unset, .unset, .unset] [])) rfl (hb hby at_130) (n := 64) (by decide) (by decide) (by decide) (by decide)
      have hCR := hCR.trans hC340
      have Zs340 : n0 ≤ h340.size := Nat.le_trans Z0 E340.1
      have K340 : Keep h0 h340 [] := (Keep.refl h0 []).ext E340
      have F341 := Sc.ext E340
      have F342 := Sf.ext E340
      obtain ⟨cq343, kq343, q343a, q343b, q343c⟩ := isOf hZ e340 Ex340
      obtain ⟨_, _, ⟨T343, L343, k343, n343⟩, -, X343, ⟨Lc343, hQ343, l343, y343, z343⟩, st343⟩ := X340.virtualBack hx (y := (⟨"java/lang/String", "length", "()I"⟩ : MethodName)) (z := (⟨"java/lang/String", "length", "()I"⟩ : MethodName)) hown (mvT hZ (wd hw 9 rfl)) (mvT hZ (wd hw 10 rfl)) (notFace_of_selects (args := #[]) (mvT hZ (wd hw 12 rfl))) (mvT hZ (wd hw 12 rfl)) (mvT hZ (wd hw 11 rfl)) (by decide) (StrChars.Road.lenW (W := 0) hZ (fun d hd => hw d (own_sub_lenW d hd)) (kI := 4) (wd hw 3 rfl) (cs := own_LT) Ex340 Fv340 Fc340 V340 own_codT own_bdT F341 hcs (by decide) (by decide) (by decide)) q343a q343c (g := (mkF m 141 #[.val (.int p0_0), .val (.int p0_1), .val (.int p0_2), .val (.int p0_3), .val (.int p0_4), .val (.int p0_5), .val (.int (1 : Int32)), .val (.int (2 : Int32)), .unset, .val (.ref b340), .unset, .unset, .unset] [(.ref b340)])) rfl (by rw [hml]; rfl) (Steps.refl _) (argsL := []) (rest := []) (lenOf pd_1 rfl) rfl (by show 2 * 0 + _ ≤ _; exact Nat.le_of_eq rfl) (hb hby at_141) (fun _ _ => ⟨rfl, e340, (by decide : 2 + 0 ≤ _), (by decide : 68 + 0 ≤ _)⟩)
      dsimp only [Pt.U, Pt.locs, Pt.cells, Pt.slots] at X343 l343 y343 z343 st343 hQ343
      rw [l343, y343, z343] at X343
      obtain ⟨rfl, rfl, eh343⟩ := hQ343
      have N343 := Fr.app N0 (Fr.nil n0)
      obtain ⟨b344, g344⟩ : ∃ z, z = h340.size := ⟨_, rfl⟩
      obtain ⟨T344, h344, k344, X344, e344, E344, A344, st344⟩ := newP X343 hx hZ (wd hw 22 rfl) eh343 (g := (mkF m 190 #[.val (.int p0_0), .val (.int p0_1), .val (.int p0_2), .val (.int p0_3), .val (.int p0_4), .val (.int p0_5), .val (.int (1 : Int32)), .val (.int (2 : Int32)), .unset, .val (.ref b340), .val (.int (16 : Int32)), .val (.int (15 : Int32)), .unset] [(.int (15 : Int32))])) rfl (hb hby at_190) rfl (by decide) (cap := 15) (by decide) (by decide) (by decide) (by decide)
      rw [← g344] at A344 st344
      have ne345 : b340 ≠ b344 := Nat.ne_of_lt (Nat.lt_of_lt_of_le Ex340.lt (Nat.le_of_eq g344.symm))
      have ne346 : d340 ≠ b344 := Nat.ne_of_lt (Nat.lt_of_lt_of_le V340.lt (Nat.le_of_eq g344.symm))
      have sfn344 := Safe.new (Z := Z) (EL := consts_1) (vm := T340.vm) (Nat.le_of_eq g344.symm)
      have sf347 := Safe.ext E344 hCR.1 sfn344
      have hCR := hCR.trans (CHr.ext E344 hCR.1)
      have hk := Nat.le_trans hk E344.1
      have gg344 : n0 ≤ b344 := Nat.le_trans Zs340 (Nat.le_of_eq g344.symm)
      have sz344 : h0.size ≤ b344 := Nat.le_trans K340.1 (Nat.le_of_eq g344.symm)
      have Zs344 : n0 ≤ h344.size := Nat.le_trans Zs340 E344.1
      have K344 : Keep h0 h344 [] := K340.ext E344
      have F348 := F341.ext E344
      have F349 := F342.ext E344
      have F350 := Ex340.ext E344
      have F351 := Fc340.ext E344
      have F352 := Fv340.ext E344
      have F353 := V340.ext E344
      have V344 : Arv Z h344 b344 k344 .char (15 : Int32) [(.int (0 : Int32)), (.int (0 : Int32)), (.int (0 : Int32)), (.int (0 : Int32)), (.int (0 : Int32)), (.int (0 : Int32)), (.int (0 : Int32)), (.int (0 : Int32)), (.int (0 : Int32)), (.int (0 : Int32)), (.int (0 : Int32)), (.int (0 : Int32)), (.int (0 : Int32)), (.int (0 : Int32)), (.int (0 : Int32))] (.int (0 : Int32)) := (Arv.new A344 (by decide)).pad (pad_rep [] (.int (0 : Int32)) 15)
      have k354 : ∀ t, Steps p.tables e below (T344.setTop (mkF m 205 #[.val (.int p0_0), .val (.int p0_1), .val (.int p0_2), .val (.int p0_3), .val (.int p0_4), .val (.int p0_5), .val (.int (1 : Int32)), .val (.int (2 : Int32)), .unset, .val (.ref b340), .val (.int (16 : Int32)), .val (.int (15 : Int32)), .val (.ref b344)] [(.int (p0_4 &&& (255 : Int32)).toUInt32.toUInt16.toUInt32.toInt32), (.ref b340), (.ref b344)])) t → Steps p.tables e below (s₁.setTop (entryFrame m #[(.int p0_0), (.int p0_1), (.int p0_2), (.int p0_3), (.int p0_4), (.int p0_5)] maxLocals)) t := by
        intro t k
        refine k1 t ?_
        refine XS.iload X0.here hx rfl (hb hby at_16) rfl ?_
        refine XS.iconst X0.here hx rfl (hb hby at_18) ?_
        refine XS.icmpYes X0.here hx rfl (pc0 := 19) (pc' := 114) rfl (hb hby at_19) rfl (feq (by decide : ¬ ((1 : Int32) = (3 : Int32)))).2 (by decide) (by decide) ?_
        refine XS.iload X0.here hx rfl (hb hby at_114) rfl ?_
        refine XS.ifYes X0.here hx rfl (pc0 := 116) (pc' := 124) rfl (hb hby at_116) rfl ((if0 _ _).trans (feq (by decide : ¬ ((1 : Int32) = (0 : Int32)))).2) (by decide) (by decide) ?_
        show Steps p.tables e below (s₁.setTop (mkF m 124 #[.val (.int p0_0), .val (.int p0_1), .val (.int p0_2), .val (.int p0_3), .val (.int p0_4), .val (.int p0_5), .val (.int (1 : Int32)), .val (.int (2 : Int32)), .unset, .unset, .unset, .unset, .unset] [])) _
        refine XS.iload X0.here hx rfl (hb hby at_124) rfl ?_
        refine XS.iconst X0.here hx rfl (hb hby at_126) ?_
        refine XS.icmpNo X0.here hx rfl (hb hby at_127) rfl (teq (by decide : (1 : Int32) = (1 : Int32))).2 ?_
        refine st340 _ ?_
        refine XS.goto X340.here hx rfl (pc0 := 132) (pc' := 137) rfl (hb hby at_132) (by decide) (by decide) ?_
        refine XS.astore X340.here hx rfl (hb hby at_137) rfl rfl (l' := #[.val (.int p0_0), .val (.int p0_1), .val (.int p0_2), .val (.int p0_3), .val (.int p0_4), .val (.int p0_5), .val (.int (1 : Int32)), .val (.int (2 : Int32)), .unset, .val (.ref b340), .unset, .unset, .unset]) rfl ?_
        refine XS.aload X340.here hx rfl (hb hby at_139) rfl rfl ?_
        refine st343.trans ?_
        refine XS.istore X343.here hx rfl (hb hby at_144) rfl (l' := #[.val (.int p0_0), .val (.int p0_1), .val (.int p0_2), .val (.int p0_3), .val (.int p0_4), .val (.int p0_5), .val (.int (1 : Int32)), .val (.int (2 : Int32)), .unset, .val (.ref b340), .val (.int (16 : Int32)), .unset, .unset]) rfl ?_
        refine XS.iload X343.here hx rfl (hb hby at_146) rfl ?_
        refine XS.iconst X343.here hx rfl (hb hby at_148) ?_
        refine XS.icmpYes X343.here hx rfl (pc0 := 149) (pc' := 158) rfl (hb hby at_149) rfl (feq (by decide : ¬ ((2 : Int32) = (4 : Int32)))).2 (by decide) (by decide) ?_
        refine XS.iload X343.here hx rfl (hb hby at_158) rfl ?_
        refine XS.iconst X343.here hx rfl (hb hby at_160) ?_
        refine XS.icmpNo X343.here hx rfl (hb hby at_161) rfl (teq (by decide : (2 : Int32) = (2 : Int32))).2 ?_
        refine XS.iload X343.here hx rfl (hb hby at_164) rfl ?_
        refine XS.iconst X343.here hx rfl (hb hby at_166) ?_
        refine XS.isub X343.here hx rfl (hb hby at_167) rfl ?_
        show Steps p.tables e below (T343.setTop (mkF m 168 #[.val (.int p0_0), .val (.int p0_1), .val (.int p0_2), .val (.int p0_3), .val (.int p0_4), .val (.int p0_5), .val (.int (1 : Int32)), .val (.int (2 : Int32)), .unset, .val (.ref b340), .val (.int (16 : Int32)), .unset, .unset] [(.int (15 : Int32))])) _
        refine XS.goto X343.here hx rfl (pc0 := 168) (pc' := 186) rfl (hb hby at_168) (by decide) (by decide) ?_
        refine XS.istore X343.here hx rfl (hb hby at_186) rfl (l' := #[.val (.int p0_0), .val (.int p0_1), .val (.int p0_2), .val (.int p0_3), .val (.int p0_4), .val (.int p0_5), .val (.int (1 : Int32)), .val (.int (2 : Int32)), .unset, .val (.ref b340), .val (.int (16 : Int32)), .val (.int (15 : Int32)), .unset]) rfl ?_
        refine XS.iload X343.here hx rfl (hb hby at_188) rfl ?_
        refine st344 _ ?_
        refine XS.astore X344.here hx rfl (hb hby at_192) rfl rfl (l' := #[.val (.int p0_0), .val (.int p0_1), .val (.int p0_2), .val (.int p0_3), .val (.int p0_4), .val (.int p0_5), .val (.int (1 : Int32)), .val (.int (2 : Int32)), .unset, .val (.ref b340), .val (.int (16 : Int32)), .val (.int (15 : Int32)), .val (.ref b344)]) rfl ?_
        refine XS.aload X344.here hx rfl (hb hby at_194) rfl rfl ?_
        refine XS.aload X344.here hx rfl (hb hby at_196) rfl rfl ?_
        refine XS.iload X344.here hx rfl (hb hby at_198) rfl ?_
        refine XS.sipush X344.here hx rfl (hb hby at_200) ?_
        refine XS.iand X344.here hx rfl (hb hby at_203) rfl ?_
        refine XS.i2c X344.here hx rfl (hb hby at_204) rfl ?_
        exact k
      rw [show (p0_4 &&& (255 : Int32)).toUInt32.toUInt16.toUInt32.toInt32 = (p0_4 &&& (255 : Int32)) from own_i2c _ (own_m255 _)] at k354
      have Vr355 : Arv Z h344 b344 k344 .char (15 : Int32) (List.map Value.int (List.replicate 15 (0 : Int32))) (.int (0 : Int32)) := V344
      have Vl356 : Arv Z h344 d340 kb340 .byte (Int32.ofNat own_LT.length) (List.map Value.int (List.map (fun c => c.toInt8.toInt32) own_LT)) (.int (0 : Int32)) := own_lsT ▸ F353
      obtain ⟨_, _, ⟨T357, L357, k357, n357⟩, -, X357, ⟨Lc357, hQ357, l357, y357, z357⟩, st357⟩ := Jvm.LawKit.callS X344 hx (y := (⟨"com/example/leanweave/leanweave/QosMeasureOfColumnPinLaw", "fill", "([CLjava/lang/String;C)V"⟩ : MethodName)) hown (mvT hZ (wd hw 23 rfl)) (mvT hZ (wd hw 24 rfl)) (mvT hZ (wd hw 25 rfl)) (mvT hZ (wd hw 26 rfl)) (by decide) (backOf (W := 0) (rm4 l Z a0 hw [] b344 b340 (p0_4 &&& (255 : Int32)) k344 (15 : Int32) (List.replicate 15 (0 : Int32)) d340 kb340 own_LT cs fm h344 n0 Zs344 Vr355 F350 F352 F351 Vl356 F348 F349 (by decide : (List.replicate 15 (0 : Int32)).length = (15 : Int32).toNatClampNeg) (by decide : ∀ c ∈ (List.replicate 15 (0 : Int32)), ¬ c < 0 ∧ ¬ (255 : Int32) < c) (by decide : ∀ c ∈ own_LT, ¬ c < 0 ∧ ¬ (255 : Int32) < c) (by decide : own_LT.length ≤ 4000) hcs hfm (own_m255 _).1 (own_m255 _).2 ne345 ne346 gg344) hZ (wd hw 26 rfl) (wd hw 25 rfl) (by decide) (by decide)) (g := (mkF m 205 #[.val (.int p0_0), .val (.int p0_1), .val (.int p0_2), .val (.int p0_3), .val (.int p0_4), .val (.int p0_5), .val (.int (1 : Int32)), .val (.int (2 : Int32)), .unset, .val (.ref b340), .val (.int (16 : Int32)), .val (.int (15 : Int32)), .val (.ref b344)] [(.int (p0_4 &&& (255 : Int32))), (.ref b340), (.ref b344)])) rfl (by rw [hml]; rfl) (argsL := [(.ref b344), (.ref b340), (.int (p0_4 &&& (255 : Int32)))]) (rest := []) (lenOf pd_12 rfl) rfl (by show 2 * 0 + _ ≤ _; exact Nat.le_of_eq rfl) (hb hby at_205) (fun _ _ => ⟨rfl, e344, (by decide : 3 + 0 ≤ _), (by decide : 83 + 0 ≤ _)⟩)
      dsimp only [Pt.U, Pt.locs, Pt.cells, Pt.slots] at X357 l357 y357 z357 st357 hQ357
      rw [l357, y357, z357] at X357
      obtain ⟨cb_357, rfl, N357q, Kc357, G357_0, P357_0, P357_1⟩ := hQ357
      have Zs357 : n0 ≤ T357.heap.size := Nat.le_trans Zs344 Kc357.1
      have K357 : Keep h0 T357.heap [] := K344.trans Kc357 (allS (Or.inr sz344) all0)
      have sf358 := Safe.keep Kc357 (sfS (Safe.arv hZ.alike Vr355 (by decide)) sf0) hCR.1 sf347
      have hCR := hCR.trans (CHr.keep Kc357 (sfS (Safe.arv hZ.alike Vr355 (by decide)) sf0) hCR.1)
      have hk := Nat.le_trans hk Kc357.1
      have F359 := own_stakeep F348 Kc357 (allS (own_nsV Vr355) all0)
      have F360 := own_stakeep F349 Kc357 (allS (own_nsV Vr355) all0)
      have F361 := F350.keep Kc357
      have F362 := F351.keep Kc357 (ninS ne345 nin0)
      have F363 := F352.keep Kc357 (ninS ne345 nin0)
      have F364 := Vl356.keep Kc357 (ninS ne346 nin0)
      have N357 := Fr.app N343 N357q
      obtain ⟨b365, g365⟩ : ∃ z, z = T357.heap.size := ⟨_, rfl⟩
      obtain ⟨T365, h365, X365, e365, E365, A365, D365, -, st365⟩ := newO X357 hx hZ hown (wd hw 52 rfl) (wd hw 3 rfl) (wd hw 2 rfl) rfl (g := (mkF m 231 #[.val (.int p0_0), .val (.int p0_1), .val (.int p0_2), .val (.int p0_3), .val (.int p0_4), .val (.int p0_5), .val (.int (1 : Int32)), .val (.int (2 : Int32)), .unset, .val (.ref b340), .val (.int (16 : Int32)), .val (.int (15 : Int32)), .val (.ref b344)] [])) rfl (hb hby at_231) (by decide) (by decide)
      rw [← g365] at A365 D365 st365
      have ne366 : b340 ≠ b365 := Nat.ne_of_lt (Nat.lt_of_lt_of_le F361.lt (Nat.le_of_eq g365.symm))
      have ne367 : d340 ≠ b365 := Nat.ne_of_lt (Nat.lt_of_lt_of_le F364.lt (Nat.le_of_eq g365.symm))
      have ne368 : b344 ≠ b365 := Nat.ne_of_lt (Nat.lt_of_lt_of_le G357_0.lt (Nat.le_of_eq g365.symm))
      have sfn365 := Safe.new (Z := Z) (EL := consts_1) (vm := T340.vm) (Nat.le_of_eq g365.symm)
      have sf369 := Safe.ext E365 hCR.1 sf358
      have sf370 := Safe.ext E365 hCR.1 sfn365
      have hCR := hCR.trans (CHr.ext E365 hCR.1)
      have hk := Nat.le_trans hk E365.1
      have gg365 : n0 ≤ b365 := Nat.le_trans Zs357 (Nat.le_of_eq g365.symm)
      have sz365 : h0.size ≤ b365 := Nat.le_trans K357.1 (Nat.le_of_eq g365.symm)
      have Zs365 : n0 ≤ h365.size := Nat.le_trans Zs357 E365.1
      have K365 : Keep h0 h365 [] := K357.ext E365
      have F371 := F359.ext E365
      have F372 := F360.ext E365
      have F373 := F361.ext E365
      have F374 := F362.ext E365
      have F375 := F363.ext E365
      have F376 := F364.ext E365
      have F377 := G357_0.ext E365
      have F378 : Fld Z h365 b365 "java/lang/String" "value" "[B" .null := D365 (Or.inr (wd hw 5 rfl)) (ty := (.array .byte)) (by decide)
      have F379 : Fld Z h365 b365 "java/lang/String" "coder" "B" (.int (0 : Int32)) := D365 (Or.inr (wd hw 6 rfl)) (ty := .byte) (by decide)
      obtain ⟨_, _, ⟨T380, L380, k380, n380⟩, -, X380, ⟨Lc380, hQ380, l380, y380, z380⟩, st380⟩ := X365.specialBack hx (y := (⟨"java/lang/String", "<init>", "([C)V"⟩ : MethodName)) rfl hown (mvT hZ (wd hw 53 rfl)) (mvT hZ (wd hw 54 rfl)) (mvT hZ (wd hw 55 rfl)) (by decide) (StrChars.Road.backV (W := 1) hZ (fun d hd => hw d (own_sub_backV d hd)) (kI := 4) (wd hw 3 rfl) (cs := cb_357) (bs := cb_357.map (fun c => c.toInt8.toInt32)) (n := 15) gg365 Zs365 A365 F378 F379 F377 F371 hcs (P357_0.trans (by decide)) rfl (by decide) (by decide) P357_1 rfl (by decide) (by decide)) (g := (mkF m 237 #[.val (.int p0_0), .val (.int p0_1), .val (.int p0_2), .val (.int p0_3), .val (.int p0_4), .val (.int p0_5), .val (.int (1 : Int32)), .val (.int (2 : Int32)), .unset, .val (.ref b340), .val (.int (16 : Int32)), .val (.int (15 : Int32)), .val (.ref b344)] [(.ref b344), (.ref b365), (.ref b365)])) rfl (by rw [hml]; rfl) (Steps.refl _) (a := b365) (argsL := [(.ref b344)]) (rest := [(.ref b365)]) (lenOf pd_13 rfl) rfl (by show 2 * 0 + _ ≤ _; exact Nat.le_of_eq rfl) (hb hby at_237) (fun _ _ => ⟨rfl, e365, (by decide : 4 + 1 ≤ _), (by decide : 87 + 15 ≤ _)⟩)
      dsimp only [Pt.U, Pt.locs, Pt.cells, Pt.slots] at X380 l380 y380 z380 st380 hQ380
      rw [l380, y380, z380] at X380
      obtain ⟨rfl, N380q, Kc380, G380_0, G380_1, t380, kb380, ggt380, szt380, nex380, G380_2, G380_3⟩ := hQ380
      have szz380 : h0.size ≤ t380 := Nat.le_trans K365.1 szt380
      have Zs380 : n0 ≤ T380.heap.size := Nat.le_trans Zs365 Kc380.1
      have K380 : Keep h0 T380.heap [] := K365.trans Kc380 (allS (Or.inr sz365) all0)
      have sf381 := Safe.keep Kc380 (sfS sf370 sf0) hCR.1 sf369
      have sf382 := Safe.keep Kc380 (sfS sf370 sf0) hCR.1 sf370
      have hCR := hCR.trans (CHr.keep Kc380 (sfS sf370 sf0) hCR.1)
      have hk := Nat.le_trans hk Kc380.1
      have F383 := own_stakeep F371 Kc380 (allS (own_nsE A365) all0)
      have F384 := own_stakeep F372 Kc380 (allS (own_nsE A365) all0)
      have F385 := F373.keep Kc380
      have F386 := F374.keep Kc380 (ninS ne366 nin0)
      have F387 := F375.keep Kc380 (ninS ne366 nin0)
      have F388 := F376.keep Kc380 (ninS ne367 nin0)
      have F389 := F377.keep Kc380 (ninS ne368 nin0)
      have N380 := Fr.app N357 N380q
      have k390 : ∀ t, Steps p.tables e below (T380.setTop (mkF m 242 #[.val (.int p0_0), .val (.int p0_1), .val (.int p0_2), .val (.int p0_3), .val (.int p0_4), .val (.int p0_5), .val (.int (1 : Int32)), .val (.int (2 : Int32)), .val (.ref b365), .val (.ref b340), .val (.int (16 : Int32)), .val (.int (15 : Int32)), .val (.ref b344)] [])) t → Steps p.tables e below (s₁.setTop (entryFrame m #[(.int p0_0), (.int p0_1), (.int p0_2), (.int p0_3), (.int p0_4), (.int p0_5)] maxLocals)) t := by
        intro t k
        refine k354 t ?_
        refine st357 _ ?_
        refine XS.iload X357.here hx rfl (hb hby at_208) rfl ?_
        refine XS.iconst X357.here hx rfl (hb hby at_210) ?_
        refine XS.icmpYes X357.here hx rfl (pc0 := 211) (pc' := 231) rfl (hb hby at_211) rfl (feq (by decide : ¬ ((2 : Int32) = (1 : Int32)))).2 (by decide) (by decide) ?_
        refine st365 _ ?_
        refine XS.dup X365.here hx rfl (hb hby at_234) rfl rfl ?_
        refine XS.aload X365.here hx rfl (hb hby at_235) rfl rfl ?_
        show Steps p.tables e below (T365.setTop (mkF m 237 #[.val (.int p0_0), .val (.int p0_1), .val (.int p0_2), .val (.int p0_3), .val (.int p0_4), .val (.int p0_5), .val (.int (1 : Int32)), .val (.int (2 : Int32)), .unset, .val (.ref b340), .val (.int (16 : Int32)), .val (.int (15 : Int32)), .val (.ref b344)] [(.ref b344), (.ref b365), (.ref b365)])) _
        refine st380.trans ?_
        refine XS.astore X380.here hx rfl (hb hby at_240) rfl rfl (l' := #[.val (.int p0_0), .val (.int p0_1), .val (.int p0_2), .val (.int p0_3), .val (.int p0_4), .val (.int p0_5), .val (.int (1 : Int32)), .val (.int (2 : Int32)), .val (.ref b365), .val (.ref b340), .val (.int (16 : Int32)), .val (.int (15 : Int32)), .val (.ref b344)]) rfl ?_
        exact k
      obtain ⟨t_, o_, ss_, s2_, s3_, v_, L_, hv_, hq_, hf_⟩ := sgs1 hw hEL wS h0 p0_0 p0_1 p0_2 p0_3 p0_4 p0_5 (1 : Int32) (2 : Int32) b365 (.val (.int (15 : Int32))) (.val (.ref b344)) b340 (.val (.int (16 : Int32))) u_EMPTY u__VALUES cl_u__VALUES u_RESPONSE_TIME u_THROUGHPUT u_COST u_RESPONSE_TIME_column u_RESPONSE_TIME_column_value cl_u_RESPONSE_TIME_column_value u_THROUGHPUT_column u_THROUGHPUT_column_value cl_u_THROUGHPUT_column_value u_COST_column u_COST_column_value cl_u_COST_column_value cs t380 kb380 (15 : Int32) cb_357 T380.heap n0 Zs380 S_EMPTY E_u_EMPTY F_u_EMPTY_value S__VALUES E_u__VALUES S_RESPONSE_TIME E_u_RESPONSE_TIME S_THROUGHPUT E_u_THROUGHPUT S_COST E_u_COST F_u_RESPONSE_TIME_column E_u_RESPONSE_TIME_column F_u_RESPONSE_TIME_column_coder F_u_RESPONSE_TIME_column_value F_u_THROUGHPUT_column E_u_THROUGHPUT_column F_u_THROUGHPUT_column_coder F_u_THROUGHPUT_column_value F_u_COST_column E_u_COST_column F_u_COST_column_coder F_u_COST_column_value V_u__VALUES V_u_RESPONSE_TIME_column_value V_u_THROUGHPUT_column_value V_u_COST_column_value K380 F383 G380_0 G380_2 G380_1 G380_3 hcs (Or.inr ⟨_, rfl, rfl⟩) (by rw [P357_0]; rfl) P357_1 (by rw [P357_0]; decide) (X380.more (by decide) (by decide)) hx hZ hby hml hown Bd.returns (by first | assumption | exact BodyLoose.notSynchronized (by assumption) | exact Body.notSynchronized (by assumption)) rfl N380 hh hS hk hCR
      exact ⟨t_, o_, k390 _ ss_, s2_, s3_, v_, L_, hv_, hq_, hf_⟩
    · skip
      obtain ⟨b391, T391, h391, k391, d391, kb391, X391, e391, E391, hS, hk, hZ, hown, Ex391, Fc391, Fv391, V391, lta391, ltb391, hC391, hL391, hsf391, st391⟩ := ldcCH X0 hx hZ hown (wd hw 122 rfl) wS e0 hS hk hEL (List.mem_of_getElem? (i := 1) rfl) hCR.1 (vs := [(.int (116 : Int32)), (.int (104 : Int32)), (.int (114 : Int32)), (.int (111 : Int32)), (.int (117 : Int32)), (.int (103 : Int32)), (.int (104 : Int32)), (.int (112 : Int32)), (.int (117 : Int32)), (.int (116 : Int32)), (.int (95 : Int32)), (.int (112 : Int32)), (.int (101 : Int32)), (.int (114 : Int32)), (.int (95 : Int32)), (.int (115 : Int32))]) (z := (16 : Int32)) ⟨by decide, rfl⟩ (by decide) rfl (g := (mkF m 130 #[.val (.int p0_0), .val (.int p0_1), .val (.int p0_2), .val (.int p0_3), .val (.int p0_4), .val (.int p0_5), .val (.int (1 : Int32)), .val (.int (3 : Int32)), .unset, .unset, .unset, .unset, .unset] [])) rfl (hb hby at_130) (n := 64) (by decide) (by decide) (by decide) (by decide)
      have hCR := hCR.trans hC391
      have Zs391 : n0 ≤ h391.size := Nat.le_trans Z0 E391.1
      have K391 : Keep h0 h391 [] := (Keep.refl h0 []).ext E391
      have F392 := Sc.ext E391
      have F393 := Sf.ext E391
      obtain ⟨cq394, kq394, q394a, q394b, q394c⟩ := isOf hZ e391 Ex391
      obtain ⟨_, _, ⟨T394, L394, k394, n394⟩, -, X394, ⟨Lc394, hQ394, l394, y394, z394⟩, st394⟩ := X391.virtualBack hx (y := (⟨"java/lang/String", "length", "()I"⟩ : MethodName)) (z := (⟨"java/lang/String", "length", "()I"⟩ : MethodName)) hown (mvT hZ (wd hw 9 rfl)) (mvT hZ (wd hw 10 rfl)) (notFace_of_selects (args := #[]) (mvT hZ (wd hw 12 rfl))) (mvT hZ (wd hw 12 rfl)) (mvT hZ (wd hw 11 rfl)) (by decide) (StrChars.Road.lenW (W := 0) hZ (fun d hd => hw d (own_sub_lenW d hd)) (kI := 4) (wd hw 3 rfl) (cs := own_LT) Ex391 Fv391 Fc391 V391 own_codT own_bdT F392 hcs (by decide) (by decide) (by decide)) q394a q394c (g := (mkF m 141 #[.val (.int p0_0), .val (.int p0_1), .val (.int p0_2), .val (.int p0_3), .val (.int p0_4), .val (.int p0_5), .val (.int (1 : Int32)), .val (.int (3 : Int32)), .unset, .val (.ref b391), .unset, .unset, .unset] [(.ref b391)])) rfl (by rw [hml]; rfl) (Steps.refl _) (argsL := []) (rest := []) (lenOf pd_1 rfl) rfl (by show 2 * 0 + _ ≤ _; exact Nat.le_of_eq rfl) (hb hby at_141) (fun _ _ => ⟨rfl, e391, (by decide : 2 + 0 ≤ _), (by decide : 68 + 0 ≤ _)⟩)
      dsimp only [Pt.U, Pt.locs, Pt.cells, Pt.slots] at X394 l394 y394 z394 st394 hQ394
      rw [l394, y394, z394] at X394
      obtain ⟨rfl, rfl, eh394⟩ := hQ394
      have N394 := Fr.app N0 (Fr.nil n0)
      obtain ⟨b395, g395⟩ : ∃ z, z = h391.size := ⟨_, rfl⟩
      obtain ⟨T395, h395, k395, X395, e395, E395, A395, st395⟩ := newP X394 hx hZ (wd hw 22 rfl) eh394 (g := (mkF m 190 #[.val (.int p0_0), .val (.int p0_1), .val (.int p0_2), .val (.int p0_3), .val (.int p0_4), .val (.int p0_5), .val (.int (1 : Int32)), .val (.int (3 : Int32)), .unset, .val (.ref b391), .val (.int (16 : Int32)), .val (.int (17 : Int32)), .unset] [(.int (17 : Int32))])) rfl (hb hby at_190) rfl (by decide) (cap := 17) (by decide) (by decide) (by decide) (by decide)
      rw [← g395] at A395 st395
      have ne396 : b391 ≠ b395 := Nat.ne_of_lt (Nat.lt_of_lt_of_le Ex391.lt (Nat.le_of_eq g395.symm))
      have ne397 : d391 ≠ b395 := Nat.ne_of_lt (Nat.lt_of_lt_of_le V391.lt (Nat.le_of_eq g395.symm))
      have sfn395 := Safe.new (Z := Z) (EL := consts_1) (vm := T391.vm) (Nat.le_of_eq g395.symm)
      have sf398 := Safe.ext E395 hCR.1 sfn395
      have hCR := hCR.trans (CHr.ext E395 hCR.1)
      have hk := Nat.le_trans hk E395.1
      have gg395 : n0 ≤ b395 := Nat.le_trans Zs391 (Nat.le_of_eq g395.symm)
      have sz395 : h0.size ≤ b395 := Nat.le_trans K391.1 (Nat.le_of_eq g395.symm)
      have Zs395 : n0 ≤ h395.size := Nat.le_trans Zs391 E395.1
      have K395 : Keep h0 h395 [] := K391.ext E395
      have F399 := F392.ext E395
      have F400 := F393.ext E395
      have F401 := Ex391.ext E395
      have F402 := Fc391.ext E395
      have F403 := Fv391.ext E395
      have F404 := V391.ext E395
      have V395 : Arv Z h395 b395 k395 .char (17 : Int32) [(.int (0 : Int32)), (.int (0 : Int32)), (.int (0 : Int32)), (.int (0 : Int32)), (.int (0 : Int32)), (.int (0 : Int32)), (.int (0 : Int32)), (.int (0 : Int32)), (.int (0 : Int32)), (.int (0 : Int32)), (.int (0 : Int32)), (.int (0 : Int32)), (.int (0 : Int32)), (.int (0 : Int32)), (.int (0 : Int32)), (.int (0 : Int32)), (.int (0 : Int32))] (.int (0 : Int32)) := (Arv.new A395 (by decide)).pad (pad_rep [] (.int (0 : Int32)) 17)
      have k405 : ∀ t, Steps p.tables e below (T395.setTop (mkF m 205 #[.val (.int p0_0), .val (.int p0_1), .val (.int p0_2), .val (.int p0_3), .val (.int p0_4), .val (.int p0_5), .val (.int (1 : Int32)), .val (.int (3 : Int32)), .unset, .val (.ref b391), .val (.int (16 : Int32)), .val (.int (17 : Int32)), .val (.ref b395)] [(.int (p0_4 &&& (255 : Int32)).toUInt32.toUInt16.toUInt32.toInt32), (.ref b391), (.ref b395)])) t → Steps p.tables e below (s₁.setTop (entryFrame m #[(.int p0_0), (.int p0_1), (.int p0_2), (.int p0_3), (.int p0_4), (.int p0_5)] maxLocals)) t := by
        intro t k
        refine k1 t ?_
        refine XS.iload X0.here hx rfl (hb hby at_16) rfl ?_
        refine XS.iconst X0.here hx rfl (hb hby at_18) ?_
        refine XS.icmpYes X0.here hx rfl (pc0 := 19) (pc' := 114) rfl (hb hby at_19) rfl (feq (by decide : ¬ ((1 : Int32) = (3 : Int32)))).2 (by decide) (by decide) ?_
        refine XS.iload X0.here hx rfl (hb hby at_114) rfl ?_
        refine XS.ifYes X0.here hx rfl (pc0 := 116) (pc' := 124) rfl (hb hby at_116) rfl ((if0 _ _).trans (feq (by decide : ¬ ((1 : Int32) = (0 : Int32)))).2) (by decide) (by decide) ?_
        show Steps p.tables e below (s₁.setTop (mkF m 124 #[.val (.int p0_0), .val (.int p0_1), .val (.int p0_2), .val (.int p0_3), .val (.int p0_4), .val (.int p0_5), .val (.int (1 : Int32)), .val (.int (3 : Int32)), .unset, .unset, .unset, .unset, .unset] [])) _
        refine XS.iload X0.here hx rfl (hb hby at_124) rfl ?_
        refine XS.iconst X0.here hx rfl (hb hby at_126) ?_
        refine XS.icmpNo X0.here hx rfl (hb hby at_127) rfl (teq (by decide : (1 : Int32) = (1 : Int32))).2 ?_
        refine st391 _ ?_
        refine XS.goto X391.here hx rfl (pc0 := 132) (pc' := 137) rfl (hb hby at_132) (by decide) (by decide) ?_
        refine XS.astore X391.here hx rfl (hb hby at_137) rfl rfl (l' := #[.val (.int p0_0), .val (.int p0_1), .val (.int p0_2), .val (.int p0_3), .val (.int p0_4), .val (.int p0_5), .val (.int (1 : Int32)), .val (.int (3 : Int32)), .unset, .val (.ref b391), .unset, .unset, .unset]) rfl ?_
        refine XS.aload X391.here hx rfl (hb hby at_139) rfl rfl ?_
        refine st394.trans ?_
        refine XS.istore X394.here hx rfl (hb hby at_144) rfl (l' := #[.val (.int p0_0), .val (.int p0_1), .val (.int p0_2), .val (.int p0_3), .val (.int p0_4), .val (.int p0_5), .val (.int (1 : Int32)), .val (.int (3 : Int32)), .unset, .val (.ref b391), .val (.int (16 : Int32)), .unset, .unset]) rfl ?_
        refine XS.iload X394.here hx rfl (hb hby at_146) rfl ?_
        refine XS.iconst X394.here hx rfl (hb hby at_148) ?_
        refine XS.icmpYes X394.here hx rfl (pc0 := 149) (pc' := 158) rfl (hb hby at_149) rfl (feq (by decide : ¬ ((3 : Int32) = (4 : Int32)))).2 (by decide) (by decide) ?_
        refine XS.iload X394.here hx rfl (hb hby at_158) rfl ?_
        refine XS.iconst X394.here hx rfl (hb hby at_160) ?_
        refine XS.icmpYes X394.here hx rfl (pc0 := 161) (pc' := 171) rfl (hb hby at_161) rfl (feq (by decide : ¬ ((3 : Int32) = (2 : Int32)))).2 (by decide) (by decide) ?_
        refine XS.iload X394.here hx rfl (hb hby at_171) rfl ?_
        refine XS.iconst X394.here hx rfl (hb hby at_173) ?_
        refine XS.icmpNo X394.here hx rfl (hb hby at_174) rfl (teq (by decide : (3 : Int32) = (3 : Int32))).2 ?_
        show Steps p.tables e below (T394.setTop (mkF m 177 #[.val (.int p0_0), .val (.int p0_1), .val (.int p0_2), .val (.int p0_3), .val (.int p0_4), .val (.int p0_5), .val (.int (1 : Int32)), .val (.int (3 : Int32)), .unset, .val (.ref b391), .val (.int (16 : Int32)), .unset, .unset] [])) _
        refine XS.iload X394.here hx rfl (hb hby at_177) rfl ?_
        refine XS.iconst X394.here hx rfl (hb hby at_179) ?_
        refine XS.iadd X394.here hx rfl (hb hby at_180) rfl ?_
        refine XS.goto X394.here hx rfl (pc0 := 181) (pc' := 186) rfl (hb hby at_181) (by decide) (by decide) ?_
        refine XS.istore X394.here hx rfl (hb hby at_186) rfl (l' := #[.val (.int p0_0), .val (.int p0_1), .val (.int p0_2), .val (.int p0_3), .val (.int p0_4), .val (.int p0_5), .val (.int (1 : Int32)), .val (.int (3 : Int32)), .unset, .val (.ref b391), .val (.int (16 : Int32)), .val (.int (17 : Int32)), .unset]) rfl ?_
        refine XS.iload X394.here hx rfl (hb hby at_188) rfl ?_
        refine st395 _ ?_
        refine XS.astore X395.here hx rfl (hb hby at_192) rfl rfl (l' := #[.val (.int p0_0), .val (.int p0_1), .val (.int p0_2), .val (.int p0_3), .val (.int p0_4), .val (.int p0_5), .val (.int (1 : Int32)), .val (.int (3 : Int32)), .unset, .val (.ref b391), .val (.int (16 : Int32)), .val (.int (17 : Int32)), .val (.ref b395)]) rfl ?_
        refine XS.aload X395.here hx rfl (hb hby at_194) rfl rfl ?_
        refine XS.aload X395.here hx rfl (hb hby at_196) rfl rfl ?_
        refine XS.iload X395.here hx rfl (hb hby at_198) rfl ?_
        refine XS.sipush X395.here hx rfl (hb hby at_200) ?_
        refine XS.iand X395.here hx rfl (hb hby at_203) rfl ?_
        refine XS.i2c X395.here hx rfl (hb hby at_204) rfl ?_
        exact k
      rw [show (p0_4 &&& (255 : Int32)).toUInt32.toUInt16.toUInt32.toInt32 = (p0_4 &&& (255 : Int32)) from own_i2c _ (own_m255 _)] at k405
      have Vr406 : Arv Z h395 b395 k395 .char (17 : Int32) (List.map Value.int (List.replicate 17 (0 : Int32))) (.int (0 : Int32)) := V395
      have Vl407 : Arv Z h395 d391 kb391 .byte (Int32.ofNat own_LT.length) (List.map Value.int (List.map (fun c => c.toInt8.toInt32) own_LT)) (.int (0 : Int32)) := own_lsT ▸ F404
      obtain ⟨_, _, ⟨T408, L408, k408, n408⟩, -, X408, ⟨Lc408, hQ408, l408, y408, z408⟩, st408⟩ := Jvm.LawKit.callS X395 hx (y := (⟨"com/example/leanweave/leanweave/QosMeasureOfColumnPinLaw", "fill", "([CLjava/lang/String;C)V"⟩ : MethodName)) hown (mvT hZ (wd hw 23 rfl)) (mvT hZ (wd hw 24 rfl)) (mvT hZ (wd hw 25 rfl)) (mvT hZ (wd hw 26 rfl)) (by decide) (backOf (W := 0) (rm4 l Z a0 hw [] b395 b391 (p0_4 &&& (255 : Int32)) k395 (17 : Int32) (List.replicate 17 (0 : Int32)) d391 kb391 own_LT cs fm h395 n0 Zs395 Vr406 F401 F403 F402 Vl407 F399 F400 (by decide : (List.replicate 17 (0 : Int32)).length = (17 : Int32).toNatClampNeg) (by decide : ∀ c ∈ (List.replicate 17 (0 : Int32)), ¬ c < 0 ∧ ¬ (255 : Int32) < c) (by decide : ∀ c ∈ own_LT, ¬ c < 0 ∧ ¬ (255 : Int32) < c) (by decide : own_LT.length ≤ 4000) hcs hfm (own_m255 _).1 (own_m255 _).2 ne396 ne397 gg395) hZ (wd hw 26 rfl) (wd hw 25 rfl) (by decide) (by decide)) (g := (mkF m 205 #[.val (.int p0_0), .val (.int p0_1), .val (.int p0_2), .val (.int p0_3), .val (.int p0_4), .val (.int p0_5), .val (.int (1 : Int32)), .val (.int (3 : Int32)), .unset, .val (.ref b391), .val (.int (16 : Int32)), .val (.int (17 : Int32)), .val (.ref b395)] [(.int (p0_4 &&& (255 : Int32))), (.ref b391), (.ref b395)])) rfl (by rw [hml]; rfl) (argsL := [(.ref b395), (.ref b391), (.int (p0_4 &&& (255 : Int32)))]) (rest := []) (lenOf pd_12 rfl) rfl (by show 2 * 0 + _ ≤ _; exact Nat.le_of_eq rfl) (hb hby at_205) (fun _ _ => ⟨rfl, e395, (by decide : 3 + 0 ≤ _), (by decide : 85 + 0 ≤ _)⟩)
      dsimp only [Pt.U, Pt.locs, Pt.cells, Pt.slots] at X408 l408 y408 z408 st408 hQ408
      rw [l408, y408, z408] at X408
      obtain ⟨cb_408, rfl, N408q, Kc408, G408_0, P408_0, P408_1⟩ := hQ408
      have Zs408 : n0 ≤ T408.heap.size := Nat.le_trans Zs395 Kc408.1
      have K408 : Keep h0 T408.heap [] := K395.trans Kc408 (allS (Or.inr sz395) all0)
      have sf409 := Safe.keep Kc408 (sfS (Safe.arv hZ.alike Vr406 (by decide)) sf0) hCR.1 sf398
      have hCR := hCR.trans (CHr.keep Kc408 (sfS (Safe.arv hZ.alike Vr406 (by decide)) sf0) hCR.1)
      have hk := Nat.le_trans hk Kc408.1
      have F410 := own_stakeep F399 Kc408 (allS (own_nsV Vr406) all0)
      have F411 := own_stakeep F400 Kc408 (allS (own_nsV Vr406) all0)
      have F412 := F401.keep Kc408
      have F413 := F402.keep Kc408 (ninS ne396 nin0)
      have F414 := F403.keep Kc408 (ninS ne396 nin0)
      have F415 := Vl407.keep Kc408 (ninS ne397 nin0)
      have N408 := Fr.app N394 N408q
      obtain ⟨b416, g416⟩ : ∃ z, z = T408.heap.size := ⟨_, rfl⟩
      obtain ⟨T416, h416, X416, e416, E416, A416, D416, -, st416⟩ := newO X408 hx hZ hown (wd hw 52 rfl) (wd hw 3 rfl) (wd hw 2 rfl) rfl (g := (mkF m 231 #[.val (.int p0_0), .val (.int p0_1), .val (.int p0_2), .val (.int p0_3), .val (.int p0_4), .val (.int p0_5), .val (.int (1 : Int32)), .val (.int (3 : Int32)), .unset, .val (.ref b391), .val (.int (16 : Int32)), .val (.int (17 : Int32)), .val (.ref b395)] [])) rfl (hb hby at_231) (by decide) (by decide)
      rw [← g416] at A416 D416 st416
      have ne417 : b391 ≠ b416 := Nat.ne_of_lt (Nat.lt_of_lt_of_le F412.lt (Nat.le_of_eq g416.symm))
      have ne418 : d391 ≠ b416 := Nat.ne_of_lt (Nat.lt_of_lt_of_le F415.lt (Nat.le_of_eq g416.symm))
      have ne419 : b395 ≠ b416 := Nat.ne_of_lt (Nat.lt_of_lt_of_le G408_0.lt (Nat.le_of_eq g416.symm))
      have sfn416 := Safe.new (Z := Z) (EL := consts_1) (vm := T391.vm) (Nat.le_of_eq g416.symm)
      have sf420 := Safe.ext E416 hCR.1 sf409
      have sf421 := Safe.ext E416 hCR.1 sfn416
      have hCR := hCR.trans (CHr.ext E416 hCR.1)
      have hk := Nat.le_trans hk E416.1
      have gg416 : n0 ≤ b416 := Nat.le_trans Zs408 (Nat.le_of_eq g416.symm)
      have sz416 : h0.size ≤ b416 := Nat.le_trans K408.1 (Nat.le_of_eq g416.symm)
      have Zs416 : n0 ≤ h416.size := Nat.le_trans Zs408 E416.1
      have K416 : Keep h0 h416 [] := K408.ext E416
      have F422 := F410.ext E416
      have F423 := F411.ext E416
      have F424 := F412.ext E416
      have F425 := F413.ext E416
      have F426 := F414.ext E416
      have F427 := F415.ext E416
      have F428 := G408_0.ext E416
      have F429 : Fld Z h416 b416 "java/lang/String" "value" "[B" .null := D416 (Or.inr (wd hw 5 rfl)) (ty := (.array .byte)) (by decide)
      have F430 : Fld Z h416 b416 "java/lang/String" "coder" "B" (.int (0 : Int32)) := D416 (Or.inr (wd hw 6 rfl)) (ty := .byte) (by decide)
      obtain ⟨_, _, ⟨T431, L431, k431, n431⟩, -, X431, ⟨Lc431, hQ431, l431, y431, z431⟩, st431⟩ := X416.specialBack hx (y := (⟨"java/lang/String", "<init>", "([C)V"⟩ : MethodName)) rfl hown (mvT hZ (wd hw 53 rfl)) (mvT hZ (wd hw 54 rfl)) (mvT hZ (wd hw 55 rfl)) (by decide) (StrChars.Road.backV (W := 1) hZ (fun d hd => hw d (own_sub_backV d hd)) (kI := 4) (wd hw 3 rfl) (cs := cb_408) (bs := cb_408.map (fun c => c.toInt8.toInt32)) (n := 17) gg416 Zs416 A416 F429 F430 F428 F422 hcs (P408_0.trans (by decide)) rfl (by decide) (by decide) P408_1 rfl (by decide) (by decide)) (g := (mkF m 237 #[.val (.int p0_0), .val (.int p0_1), .val (.int p0_2), .val (.int p0_3), .val (.int p0_4), .val (.int p0_5), .val (.int (1 : Int32)), .val (.int (3 : Int32)), .unset, .val (.ref b391), .val (.int (16 : Int32)), .val (.int (17 : Int32)), .val (.ref b395)] [(.ref b395), (.ref b416), (.ref b416)])) rfl (by rw [hml]; rfl) (Steps.refl _) (a := b416) (argsL := [(.ref b395)]) (rest := [(.ref b416)]) (lenOf pd_13 rfl) rfl (by show 2 * 0 + _ ≤ _; exact Nat.le_of_eq rfl) (hb hby at_237) (fun _ _ => ⟨rfl, e416, (by decide : 4 + 1 ≤ _), (by decide : 89 + 17 ≤ _)⟩)
      dsimp only [Pt.U, Pt.locs, Pt.cells, Pt.slots] at X431 l431 y431 z431 st431 hQ431
      rw [l431, y431, z431] at X431
      obtain ⟨rfl, N431q, Kc431, G431_0, G431_1, t431, kb431, ggt431, szt431, nex431, G431_2, G431_3⟩ := hQ431
      have szz431 : h0.size ≤ t431 := Nat.le_trans K416.1 szt431
      have Zs431 : n0 ≤ T431.heap.size := Nat.le_trans Zs416 Kc431.1
      have K431 : Keep h0 T431.heap [] := K416.trans Kc431 (allS (Or.inr sz416) all0)
      have sf432 := Safe.keep Kc431 (sfS sf421 sf0) hCR.1 sf420
      have sf433 := Safe.keep Kc431 (sfS sf421 sf0) hCR.1 sf421
      have hCR := hCR.trans (CHr.keep Kc431 (sfS sf421 sf0) hCR.1)
      have hk := Nat.le_trans hk Kc431.1
      have F434 := own_stakeep F422 Kc431 (allS (own_nsE A416) all0)
      have F435 := own_stakeep F423 Kc431 (allS (own_nsE A416) all0)
      have F436 := F424.keep Kc431
      have F437 := F425.keep Kc431 (ninS ne417 nin0)
      have F438 := F426.keep Kc431 (ninS ne417 nin0)
      have F439 := F427.keep Kc431 (ninS ne418 nin0)
      have F440 := F428.keep Kc431 (ninS ne419 nin0)
      have N431 := Fr.app N408 N431q
      have k441 : ∀ t, Steps p.tables e below (T431.setTop (mkF m 242 #[.val (.int p0_0), .val (.int p0_1), .val (.int p0_2), .val (.int p0_3), .val (.int p0_4), .val (.int p0_5), .val (.int (1 : Int32)), .val (.int (3 : Int32)), .val (.ref b416), .val (.ref b391), .val (.int (16 : Int32)), .val (.int (17 : Int32)), .val (.ref b395)] [])) t → Steps p.tables e below (s₁.setTop (entryFrame m #[(.int p0_0), (.int p0_1), (.int p0_2), (.int p0_3), (.int p0_4), (.int p0_5)] maxLocals)) t := by
        intro t k
        refine k405 t ?_
        refine st408 _ ?_
        refine XS.iload X408.here hx rfl (hb hby at_208) rfl ?_
        refine XS.iconst X408.here hx rfl (hb hby at_210) ?_
        refine XS.icmpYes X408.here hx rfl (pc0 := 211) (pc' := 231) rfl (hb hby at_211) rfl (feq (by decide : ¬ ((3 : Int32) = (1 : Int32)))).2 (by decide) (by decide) ?_
        show Steps p.tables e below (T408.setTop (mkF m 231 #[.val (.int p0_0), .val (.int p0_1), .val (.int p0_2), .val (.int p0_3), .val (.int p0_4), .val (.int p0_5), .val (.int (1 : Int32)), .val (.int (3 : Int32)), .unset, .val (.ref b391), .val (.int (16 : Int32)), .val (.int (17 : Int32)), .val (.ref b395)] [])) _
        refine st416 _ ?_
        refine XS.dup X416.here hx rfl (hb hby at_234) rfl rfl ?_
        refine XS.aload X416.here hx rfl (hb hby at_235) rfl rfl ?_
        refine st431.trans ?_
        refine XS.astore X431.here hx rfl (hb hby at_240) rfl rfl (l' := #[.val (.int p0_0), .val (.int p0_1), .val (.int p0_2), .val (.int p0_3), .val (.int p0_4), .val (.int p0_5), .val (.int (1 : Int32)), .val (.int (3 : Int32)), .val (.ref b416), .val (.ref b391), .val (.int (16 : Int32)), .val (.int (17 : Int32)), .val (.ref b395)]) rfl ?_
        exact k
      obtain ⟨t_, o_, ss_, s2_, s3_, v_, L_, hv_, hq_, hf_⟩ := sgs1 hw hEL wS h0 p0_0 p0_1 p0_2 p0_3 p0_4 p0_5 (1 : Int32) (3 : Int32) b416 (.val (.int (17 : Int32))) (.val (.ref b395)) b391 (.val (.int (16 : Int32))) u_EMPTY u__VALUES cl_u__VALUES u_RESPONSE_TIME u_THROUGHPUT u_COST u_RESPONSE_TIME_column u_RESPONSE_TIME_column_value cl_u_RESPONSE_TIME_column_value u_THROUGHPUT_column u_THROUGHPUT_column_value cl_u_THROUGHPUT_column_value u_COST_column u_COST_column_value cl_u_COST_column_value cs t431 kb431 (17 : Int32) cb_408 T431.heap n0 Zs431 S_EMPTY E_u_EMPTY F_u_EMPTY_value S__VALUES E_u__VALUES S_RESPONSE_TIME E_u_RESPONSE_TIME S_THROUGHPUT E_u_THROUGHPUT S_COST E_u_COST F_u_RESPONSE_TIME_column E_u_RESPONSE_TIME_column F_u_RESPONSE_TIME_column_coder F_u_RESPONSE_TIME_column_value F_u_THROUGHPUT_column E_u_THROUGHPUT_column F_u_THROUGHPUT_column_coder F_u_THROUGHPUT_column_value F_u_COST_column E_u_COST_column F_u_COST_column_coder F_u_COST_column_value V_u__VALUES V_u_RESPONSE_TIME_column_value V_u_THROUGHPUT_column_value V_u_COST_column_value K431 F434 G431_0 G431_2 G431_1 G431_3 hcs (Or.inr ⟨_, rfl, rfl⟩) (by rw [P408_0]; rfl) P408_1 (by rw [P408_0]; decide) (X431.more (by decide) (by decide)) hx hZ hby hml hown Bd.returns (by first | assumption | exact BodyLoose.notSynchronized (by assumption) | exact Body.notSynchronized (by assumption)) rfl N431 hh hS hk hCR
      exact ⟨t_, o_, k441 _ ss_, s2_, s3_, v_, L_, hv_, hq_, hf_⟩
    · skip
      obtain ⟨b442, T442, h442, k442, d442, kb442, X442, e442, E442, hS, hk, hZ, hown, Ex442, Fc442, Fv442, V442, lta442, ltb442, hC442, hL442, hsf442, st442⟩ := ldcCH X0 hx hZ hown (wd hw 122 rfl) wS e0 hS hk hEL (List.mem_of_getElem? (i := 1) rfl) hCR.1 (vs := [(.int (116 : Int32)), (.int (104 : Int32)), (.int (114 : Int32)), (.int (111 : Int32)), (.int (117 : Int32)), (.int (103 : Int32)), (.int (104 : Int32)), (.int (112 : Int32)), (.int (117 : Int32)), (.int (116 : Int32)), (.int (95 : Int32)), (.int (112 : Int32)), (.int (101 : Int32)), (.int (114 : Int32)), (.int (95 : Int32)), (.int (115 : Int32))]) (z := (16 : Int32)) ⟨by decide, rfl⟩ (by decide) rfl (g := (mkF m 130 #[.val (.int p0_0), .val (.int p0_1), .val (.int p0_2), .val (.int p0_3), .val (.int p0_4), .val (.int p0_5), .val (.int (1 : Int32)), .val (.int (4 : Int32)), .unset, .unset, .unset, .unset, .unset] [])) rfl (hb hby at_130) (n := 64) (by decide) (by decide) (by decide) (by decide)
      have hCR := hCR.trans hC442
      have Zs442 : n0 ≤ h442.size := Nat.le_trans Z0 E442.1
      have K442 : Keep h0 h442 [] := (Keep.refl h0 []).ext E442
      have F443 := Sc.ext E442
      have F444 := Sf.ext E442
      obtain ⟨cq445, kq445, q445a, q445b, q445c⟩ := isOf hZ e442 Ex442
      obtain ⟨_, _, ⟨T445, L445, k445, n445⟩, -, X445, ⟨Lc445, hQ445, l445, y445, z445⟩, st445⟩ := X442.virtualBack hx (y := (⟨"java/lang/String", "length", "()I"⟩ : MethodName)) (z := (⟨"java/lang/String", "length", "()I"⟩ : MethodName)) hown (mvT hZ (wd hw 9 rfl)) (mvT hZ (wd hw 10 rfl)) (notFace_of_selects (args := #[]) (mvT hZ (wd hw 12 rfl))) (mvT hZ (wd hw 12 rfl)) (mvT hZ (wd hw 11 rfl)) (by decide) (StrChars.Road.lenW (W := 0) hZ (fun d hd => hw d (own_sub_lenW d hd)) (kI := 4) (wd hw 3 rfl) (cs := own_LT) Ex442 Fv442 Fc442 V442 own_codT own_bdT F443 hcs (by decide) (by decide) (by decide)) q445a q445c (g := (mkF m 141 #[.val (.int p0_0), .val (.int p0_1), .val (.int p0_2), .val (.int p0_3), .val (.int p0_4), .val (.int p0_5), .val (.int (1 : Int32)), .val (.int (4 : Int32)), .unset, .val (.ref b442), .unset, .unset, .unset] [(.ref b442)])) rfl (by rw [hml]; rfl) (Steps.refl _) (argsL := []) (rest := []) (lenOf pd_1 rfl) rfl (by show 2 * 0 + _ ≤ _; exact Nat.le_of_eq rfl) (hb hby at_141) (fun _ _ => ⟨rfl, e442, (by decide : 2 + 0 ≤ _), (by decide : 68 + 0 ≤ _)⟩)
      dsimp only [Pt.U, Pt.locs, Pt.cells, Pt.slots] at X445 l445 y445 z445 st445 hQ445
      rw [l445, y445, z445] at X445
      obtain ⟨rfl, rfl, eh445⟩ := hQ445
      have N445 := Fr.app N0 (Fr.nil n0)
      have k446 : ∀ t, Steps p.tables e below (T445.setTop (mkF m 242 #[.val (.int p0_0), .val (.int p0_1), .val (.int p0_2), .val (.int p0_3), .val (.int p0_4), .val (.int p0_5), .val (.int (1 : Int32)), .val (.int (4 : Int32)), .val .null, .val (.ref b442), .val (.int (16 : Int32)), .unset, .unset] [])) t → Steps p.tables e below (s₁.setTop (entryFrame m #[(.int p0_0), (.int p0_1), (.int p0_2), (.int p0_3), (.int p0_4), (.int p0_5)] maxLocals)) t := by
        intro t k
        refine k1 t ?_
        refine XS.iload X0.here hx rfl (hb hby at_16) rfl ?_
        refine XS.iconst X0.here hx rfl (hb hby at_18) ?_
        refine XS.icmpYes X0.here hx rfl (pc0 := 19) (pc' := 114) rfl (hb hby at_19) rfl (feq (by decide : ¬ ((1 : Int32) = (3 : Int32)))).2 (by decide) (by decide) ?_
        refine XS.iload X0.here hx rfl (hb hby at_114) rfl ?_
        refine XS.ifYes X0.here hx rfl (pc0 := 116) (pc' := 124) rfl (hb hby at_116) rfl ((if0 _ _).trans (feq (by decide : ¬ ((1 : Int32) = (0 : Int32)))).2) (by decide) (by decide) ?_
        show Steps p.tables e below (s₁.setTop (mkF m 124 #[.val (.int p0_0), .val (.int p0_1), .val (.int p0_2), .val (.int p0_3), .val (.int p0_4), .val (.int p0_5), .val (.int (1 : Int32)), .val (.int (4 : Int32)), .unset, .unset, .unset, .unset, .unset] [])) _
        refine XS.iload X0.here hx rfl (hb hby at_124) rfl ?_
        refine XS.iconst X0.here hx rfl (hb hby at_126) ?_
        refine XS.icmpNo X0.here hx rfl (hb hby at_127) rfl (teq (by decide : (1 : Int32) = (1 : Int32))).2 ?_
        refine st442 _ ?_
        refine XS.goto X442.here hx rfl (pc0 := 132) (pc' := 137) rfl (hb hby at_132) (by decide) (by decide) ?_
        refine XS.astore X442.here hx rfl (hb hby at_137) rfl rfl (l' := #[.val (.int p0_0), .val (.int p0_1), .val (.int p0_2), .val (.int p0_3), .val (.int p0_4), .val (.int p0_5), .val (.int (1 : Int32)), .val (.int (4 : Int32)), .unset, .val (.ref b442), .unset, .unset, .unset]) rfl ?_
        refine XS.aload X442.here hx rfl (hb hby at_139) rfl rfl ?_
        refine st445.trans ?_
        refine XS.istore X445.here hx rfl (hb hby at_144) rfl (l' := #[.val (.int p0_0), .val (.int p0_1), .val (.int p0_2), .val (.int p0_3), .val (.int p0_4), .val (.int p0_5), .val (.int (1 : Int32)), .val (.int (4 : Int32)), .unset, .val (.ref b442), .val (.int (16 : Int32)), .unset, .unset]) rfl ?_
        refine XS.iload X445.here hx rfl (hb hby at_146) rfl ?_
        refine XS.iconst X445.here hx rfl (hb hby at_148) ?_
        refine XS.icmpNo X445.here hx rfl (hb hby at_149) rfl (teq (by decide : (4 : Int32) = (4 : Int32))).2 ?_
        refine XS.aconstNull X445.here hx rfl (hb hby at_152) ?_
        refine XS.astore X445.here hx rfl (hb hby at_153) rfl rfl (l' := #[.val (.int p0_0), .val (.int p0_1), .val (.int p0_2), .val (.int p0_3), .val (.int p0_4), .val (.int p0_5), .val (.int (1 : Int32)), .val (.int (4 : Int32)), .val .null, .val (.ref b442), .val (.int (16 : Int32)), .unset, .unset]) rfl ?_
        refine XS.goto X445.here hx rfl (pc0 := 155) (pc' := 242) rfl (hb hby at_155) (by decide) (by decide) ?_
        exact k
      obtain ⟨t_, o_, ss_, s2_, s3_, v_, L_, hv_, hq_, hf_⟩ := sgs0 hw hEL wS h0 p0_0 p0_1 p0_2 p0_3 p0_4 p0_5 (1 : Int32) (4 : Int32) (.unset) (.unset) b442 (.val (.int (16 : Int32))) u_EMPTY u__VALUES cl_u__VALUES u_RESPONSE_TIME u_THROUGHPUT u_COST u_RESPONSE_TIME_column u_RESPONSE_TIME_column_value cl_u_RESPONSE_TIME_column_value u_THROUGHPUT_column u_THROUGHPUT_column_value cl_u_THROUGHPUT_column_value u_COST_column u_COST_column_value cl_u_COST_column_value cs h442 n0 Zs442 S_EMPTY E_u_EMPTY F_u_EMPTY_value S__VALUES E_u__VALUES S_RESPONSE_TIME E_u_RESPONSE_TIME S_THROUGHPUT E_u_THROUGHPUT S_COST E_u_COST F_u_RESPONSE_TIME_column E_u_RESPONSE_TIME_column F_u_RESPONSE_TIME_column_coder F_u_RESPONSE_TIME_column_value F_u_THROUGHPUT_column E_u_THROUGHPUT_column F_u_THROUGHPUT_column_coder F_u_THROUGHPUT_column_value F_u_COST_column E_u_COST_column F_u_COST_column_coder F_u_COST_column_value V_u__VALUES V_u_RESPONSE_TIME_column_value V_u_THROUGHPUT_column_value V_u_COST_column_value K442 F443 hcs (Or.inr ⟨_, rfl, rfl⟩) (X445.more (by decide) (by decide)) hx hZ hby hml hown Bd.returns (by first | assumption | exact BodyLoose.notSynchronized (by assumption) | exact Body.notSynchronized (by assumption)) eh445 N445 hh hS hk hCR
      exact ⟨t_, o_, k446 _ ss_, s2_, s3_, v_, L_, hv_, hq_, hf_⟩
  · skip
    obtain ⟨z447, hz447⟩ : ∃ z, z = ((p0_1 &&& (2147483647 : Int32)) % (5 : Int32)) := ⟨_, rfl⟩
    rw [← hz447] at k1
    have hz447' : z447 = (0 : Int32) ∨ z447 = (1 : Int32) ∨ z447 = (2 : Int32) ∨ z447 = (3 : Int32) ∨ z447 = (4 : Int32) := by rw [hz447]; exact own_mod5 _
    rcases hz447' with rfl | rfl | rfl | rfl | rfl
    · skip
      obtain ⟨b448, T448, h448, k448, d448, kb448, X448, e448, E448, hS, hk, hZ, hown, Ex448, Fc448, Fv448, V448, lta448, ltb448, hC448, hL448, hsf448, st448⟩ := ldcCH X0 hx hZ hown (wd hw 123 rfl) wS e0 hS hk hEL (List.mem_of_getElem? (i := 2) rfl) hCR.1 (vs := [(.int (99 : Int32)), (.int (111 : Int32)), (.int (115 : Int32)), (.int (116 : Int32))]) (z := (4 : Int32)) ⟨by decide, rfl⟩ (by decide) rfl (g := (mkF m 135 #[.val (.int p0_0), .val (.int p0_1), .val (.int p0_2), .val (.int p0_3), .val (.int p0_4), .val (.int p0_5), .val (.int (2 : Int32)), .val (.int (0 : Int32)), .unset, .unset, .unset, .unset, .unset] [])) rfl (hb hby at_135) (n := 16) (by decide) (by decide) (by decide) (by decide)
      have hCR := hCR.trans hC448
      have Zs448 : n0 ≤ h448.size := Nat.le_trans Z0 E448.1
      have K448 : Keep h0 h448 [] := (Keep.refl h0 []).ext E448
      have F449 := Sc.ext E448
      have F450 := Sf.ext E448
      obtain ⟨cq451, kq451, q451a, q451b, q451c⟩ := isOf hZ e448 Ex448
      obtain ⟨_, _, ⟨T451, L451, k451, n451⟩, -, X451, ⟨Lc451, hQ451, l451, y451, z451⟩, st451⟩ := X448.virtualBack hx (y := (⟨"java/lang/String", "length", "()I"⟩ : MethodName)) (z := (⟨"java/lang/String", "length", "()I"⟩ : MethodName)) hown (mvT hZ (wd hw 9 rfl)) (mvT hZ (wd hw 10 rfl)) (notFace_of_selects (args := #[]) (mvT hZ (wd hw 12 rfl))) (mvT hZ (wd hw 12 rfl)) (mvT hZ (wd hw 11 rfl)) (by decide) (StrChars.Road.lenW (W := 0) hZ (fun d hd => hw d (own_sub_lenW d hd)) (kI := 4) (wd hw 3 rfl) (cs := own_LC) Ex448 Fv448 Fc448 V448 own_codC own_bdC F449 hcs (by decide) (by decide) (by decide)) q451a q451c (g := (mkF m 141 #[.val (.int p0_0), .val (.int p0_1), .val (.int p0_2), .val (.int p0_3), .val (.int p0_4), .val (.int p0_5), .val (.int (2 : Int32)), .val (.int (0 : Int32)), .unset, .val (.ref b448), .unset, .unset, .unset] [(.ref b448)])) rfl (by rw [hml]; rfl) (Steps.refl _) (argsL := []) (rest := []) (lenOf pd_1 rfl) rfl (by show 2 * 0 + _ ≤ _; exact Nat.le_of_eq rfl) (hb hby at_141) (fun _ _ => ⟨rfl, e448, (by decide : 2 + 0 ≤ _), (by decide : 20 + 0 ≤ _)⟩)
      dsimp only [Pt.U, Pt.locs, Pt.cells, Pt.slots] at X451 l451 y451 z451 st451 hQ451
      rw [l451, y451, z451] at X451
      obtain ⟨rfl, rfl, eh451⟩ := hQ451
      have N451 := Fr.app N0 (Fr.nil n0)
      obtain ⟨b452, g452⟩ : ∃ z, z = h448.size := ⟨_, rfl⟩
      obtain ⟨T452, h452, k452, X452, e452, E452, A452, st452⟩ := newP X451 hx hZ (wd hw 22 rfl) eh451 (g := (mkF m 190 #[.val (.int p0_0), .val (.int p0_1), .val (.int p0_2), .val (.int p0_3), .val (.int p0_4), .val (.int p0_5), .val (.int (2 : Int32)), .val (.int (0 : Int32)), .unset, .val (.ref b448), .val (.int (4 : Int32)), .val (.int (4 : Int32)), .unset] [(.int (4 : Int32))])) rfl (hb hby at_190) rfl (by decide) (cap := 4) (by decide) (by decide) (by decide) (by decide)
      rw [← g452] at A452 st452
      have ne453 : b448 ≠ b452 := Nat.ne_of_lt (Nat.lt_of_lt_of_le Ex448.lt (Nat.le_of_eq g452.symm))
      have ne454 : d448 ≠ b452 := Nat.ne_of_lt (Nat.lt_of_lt_of_le V448.lt (Nat.le_of_eq g452.symm))
      have sfn452 := Safe.new (Z := Z) (EL := consts_1) (vm := T448.vm) (Nat.le_of_eq g452.symm)
      have sf455 := Safe.ext E452 hCR.1 sfn452
      have hCR := hCR.trans (CHr.ext E452 hCR.1)
      have hk := Nat.le_trans hk E452.1
      have gg452 : n0 ≤ b452 := Nat.le_trans Zs448 (Nat.le_of_eq g452.symm)
      have sz452 : h0.size ≤ b452 := Nat.le_trans K448.1 (Nat.le_of_eq g452.symm)
      have Zs452 : n0 ≤ h452.size := Nat.le_trans Zs448 E452.1
      have K452 : Keep h0 h452 [] := K448.ext E452
      have F456 := F449.ext E452
      have F457 := F450.ext E452
      have F458 := Ex448.ext E452
      have F459 := Fc448.ext E452
      have F460 := Fv448.ext E452
      have F461 := V448.ext E452
      have V452 : Arv Z h452 b452 k452 .char (4 : Int32) [(.int (0 : Int32)), (.int (0 : Int32)), (.int (0 : Int32)), (.int (0 : Int32))] (.int (0 : Int32)) := (Arv.new A452 (by decide)).pad (pad_rep [] (.int (0 : Int32)) 4)
      have k462 : ∀ t, Steps p.tables e below (T452.setTop (mkF m 205 #[.val (.int p0_0), .val (.int p0_1), .val (.int p0_2), .val (.int p0_3), .val (.int p0_4), .val (.int p0_5), .val (.int (2 : Int32)), .val (.int (0 : Int32)), .unset, .val (.ref b448), .val (.int (4 : Int32)), .val (.int (4 : Int32)), .val (.ref b452)] [(.int (p0_4 &&& (255 : Int32)).toUInt32.toUInt16.toUInt32.toInt32), (.ref b448), (.ref b452)])) t → Steps p.tables e below (s₁.setTop (entryFrame m #[(.int p0_0), (.int p0_1), (.int p0_2), (.int p0_3), (.int p0_4), (.int p0_5)] maxLocals)) t := by
        intro t k
        refine k1 t ?_
        refine XS.iload X0.here hx rfl (hb hby at_16) rfl ?_
        refine XS.iconst X0.here hx rfl (hb hby at_18) ?_
        refine XS.icmpYes X0.here hx rfl (pc0 := 19) (pc' := 114) rfl (hb hby at_19) rfl (feq (by decide : ¬ ((2 : Int32) = (3 : Int32)))).2 (by decide) (by decide) ?_
        refine XS.iload X0.here hx rfl (hb hby at_114) rfl ?_
        refine XS.ifYes X0.here hx rfl (pc0 := 116) (pc' := 124) rfl (hb hby at_116) rfl ((if0 _ _).trans (feq (by decide : ¬ ((2 : Int32) = (0 : Int32)))).2) (by decide) (by decide) ?_
        show Steps p.tables e below (s₁.setTop (mkF m 124 #[.val (.int p0_0), .val (.int p0_1), .val (.int p0_2), .val (.int p0_3), .val (.int p0_4), .val (.int p0_5), .val (.int (2 : Int32)), .val (.int (0 : Int32)), .unset, .unset, .unset, .unset, .unset] [])) _
        refine XS.iload X0.here hx rfl (hb hby at_124) rfl ?_
        refine XS.iconst X0.here hx rfl (hb hby at_126) ?_
        refine XS.icmpYes X0.here hx rfl (pc0 := 127) (pc' := 135) rfl (hb hby at_127) rfl (feq (by decide : ¬ ((2 : Int32) = (1 : Int32)))).2 (by decide) (by decide) ?_
        refine st448 _ ?_
        refine XS.astore X448.here hx rfl (hb hby at_137) rfl rfl (l' := #[.val (.int p0_0), .val (.int p0_1), .val (.int p0_2), .val (.int p0_3), .val (.int p0_4), .val (.int p0_5), .val (.int (2 : Int32)), .val (.int (0 : Int32)), .unset, .val (.ref b448), .unset, .unset, .unset]) rfl ?_
        refine XS.aload X448.here hx rfl (hb hby at_139) rfl rfl ?_
        refine st451.trans ?_
        refine XS.istore X451.here hx rfl (hb hby at_144) rfl (l' := #[.val (.int p0_0), .val (.int p0_1), .val (.int p0_2), .val (.int p0_3), .val (.int p0_4), .val (.int p0_5), .val (.int (2 : Int32)), .val (.int (0 : Int32)), .unset, .val (.ref b448), .val (.int (4 : Int32)), .unset, .unset]) rfl ?_
        refine XS.iload X451.here hx rfl (hb hby at_146) rfl ?_
        refine XS.iconst X451.here hx rfl (hb hby at_148) ?_
        refine XS.icmpYes X451.here hx rfl (pc0 := 149) (pc' := 158) rfl (hb hby at_149) rfl (feq (by decide : ¬ ((0 : Int32) = (4 : Int32)))).2 (by decide) (by decide) ?_
        refine XS.iload X451.here hx rfl (hb hby at_158) rfl ?_
        refine XS.iconst X451.here hx rfl (hb hby at_160) ?_
        refine XS.icmpYes X451.here hx rfl (pc0 := 161) (pc' := 171) rfl (hb hby at_161) rfl (feq (by decide : ¬ ((0 : Int32) = (2 : Int32)))).2 (by decide) (by decide) ?_
        refine XS.iload X451.here hx rfl (hb hby at_171) rfl ?_
        refine XS.iconst X451.here hx rfl (hb hby at_173) ?_
        refine XS.icmpYes X451.here hx rfl (pc0 := 174) (pc' := 184) rfl (hb hby at_174) rfl (feq (by decide : ¬ ((0 : Int32) = (3 : Int32)))).2 (by decide) (by decide) ?_
        refine XS.iload X451.here hx rfl (hb hby at_184) rfl ?_
        show Steps p.tables e below (T451.setTop (mkF m 186 #[.val (.int p0_0), .val (.int p0_1), .val (.int p0_2), .val (.int p0_3), .val (.int p0_4), .val (.int p0_5), .val (.int (2 : Int32)), .val (.int (0 : Int32)), .unset, .val (.ref b448), .val (.int (4 : Int32)), .unset, .unset] [(.int (4 : Int32))])) _
        refine XS.istore X451.here hx rfl (hb hby at_186) rfl (l' := #[.val (.int p0_0), .val (.int p0_1), .val (.int p0_2), .val (.int p0_3), .val (.int p0_4), .val (.int p0_5), .val (.int (2 : Int32)), .val (.int (0 : Int32)), .unset, .val (.ref b448), .val (.int (4 : Int32)), .val (.int (4 : Int32)), .unset]) rfl ?_
        refine XS.iload X451.here hx rfl (hb hby at_188) rfl ?_
        refine st452 _ ?_
        refine XS.astore X452.here hx rfl (hb hby at_192) rfl rfl (l' := #[.val (.int p0_0), .val (.int p0_1), .val (.int p0_2), .val (.int p0_3), .val (.int p0_4), .val (.int p0_5), .val (.int (2 : Int32)), .val (.int (0 : Int32)), .unset, .val (.ref b448), .val (.int (4 : Int32)), .val (.int (4 : Int32)), .val (.ref b452)]) rfl ?_
        refine XS.aload X452.here hx rfl (hb hby at_194) rfl rfl ?_
        refine XS.aload X452.here hx rfl (hb hby at_196) rfl rfl ?_
        refine XS.iload X452.here hx rfl (hb hby at_198) rfl ?_
        refine XS.sipush X452.here hx rfl (hb hby at_200) ?_
        refine XS.iand X452.here hx rfl (hb hby at_203) rfl ?_
        refine XS.i2c X452.here hx rfl (hb hby at_204) rfl ?_
        exact k
      rw [show (p0_4 &&& (255 : Int32)).toUInt32.toUInt16.toUInt32.toInt32 = (p0_4 &&& (255 : Int32)) from own_i2c _ (own_m255 _)] at k462
      have Vr463 : Arv Z h452 b452 k452 .char (4 : Int32) (List.map Value.int (List.replicate 4 (0 : Int32))) (.int (0 : Int32)) := V452
      have Vl464 : Arv Z h452 d448 kb448 .byte (Int32.ofNat own_LC.length) (List.map Value.int (List.map (fun c => c.toInt8.toInt32) own_LC)) (.int (0 : Int32)) := own_lsC ▸ F461
      obtain ⟨_, _, ⟨T465, L465, k465, n465⟩, -, X465, ⟨Lc465, hQ465, l465, y465, z465⟩, st465⟩ := Jvm.LawKit.callS X452 hx (y := (⟨"com/example/leanweave/leanweave/QosMeasureOfColumnPinLaw", "fill", "([CLjava/lang/String;C)V"⟩ : MethodName)) hown (mvT hZ (wd hw 23 rfl)) (mvT hZ (wd hw 24 rfl)) (mvT hZ (wd hw 25 rfl)) (mvT hZ (wd hw 26 rfl)) (by decide) (backOf (W := 0) (rm4 l Z a0 hw [] b452 b448 (p0_4 &&& (255 : Int32)) k452 (4 : Int32) (List.replicate 4 (0 : Int32)) d448 kb448 own_LC cs fm h452 n0 Zs452 Vr463 F458 F460 F459 Vl464 F456 F457 (by decide : (List.replicate 4 (0 : Int32)).length = (4 : Int32).toNatClampNeg) (by decide : ∀ c ∈ (List.replicate 4 (0 : Int32)), ¬ c < 0 ∧ ¬ (255 : Int32) < c) (by decide : ∀ c ∈ own_LC, ¬ c < 0 ∧ ¬ (255 : Int32) < c) (by decide : own_LC.length ≤ 4000) hcs hfm (own_m255 _).1 (own_m255 _).2 ne453 ne454 gg452) hZ (wd hw 26 rfl) (wd hw 25 rfl) (by decide) (by decide)) (g := (mkF m 205 #[.val (.int p0_0), .val (.int p0_1), .val (.int p0_2), .val (.int p0_3), .val (.int p0_4), .val (.int p0_5), .val (.int (2 : Int32)), .val (.int (0 : Int32)), .unset, .val (.ref b448), .val (.int (4 : Int32)), .val (.int (4 : Int32)), .val (.ref b452)] [(.int (p0_4 &&& (255 : Int32))), (.ref b448), (.ref b452)])) rfl (by rw [hml]; rfl) (argsL := [(.ref b452), (.ref b448), (.int (p0_4 &&& (255 : Int32)))]) (rest := []) (lenOf pd_12 rfl) rfl (by show 2 * 0 + _ ≤ _; exact Nat.le_of_eq rfl) (hb hby at_205) (fun _ _ => ⟨rfl, e452, (by decide : 3 + 0 ≤ _), (by decide : 24 + 0 ≤ _)⟩)
      dsimp only [Pt.U, Pt.locs, Pt.cells, Pt.slots] at X465 l465 y465 z465 st465 hQ465
      rw [l465, y465, z465] at X465
      obtain ⟨cb_465, rfl, N465q, Kc465, G465_0, P465_0, P465_1⟩ := hQ465
      have Zs465 : n0 ≤ T465.heap.size := Nat.le_trans Zs452 Kc465.1
      have K465 : Keep h0 T465.heap [] := K452.trans Kc465 (allS (Or.inr sz452) all0)
      have sf466 := Safe.keep Kc465 (sfS (Safe.arv hZ.alike Vr463 (by decide)) sf0) hCR.1 sf455
      have hCR := hCR.trans (CHr.keep Kc465 (sfS (Safe.arv hZ.alike Vr463 (by decide)) sf0) hCR.1)
      have hk := Nat.le_trans hk Kc465.1
      have F467 := own_stakeep F456 Kc465 (allS (own_nsV Vr463) all0)
      have F468 := own_stakeep F457 Kc465 (allS (own_nsV Vr463) all0)
      have F469 := F458.keep Kc465
      have F470 := F459.keep Kc465 (ninS ne453 nin0)
      have F471 := F460.keep Kc465 (ninS ne453 nin0)
      have F472 := Vl464.keep Kc465 (ninS ne454 nin0)
      have N465 := Fr.app N451 N465q
      obtain ⟨b473, g473⟩ : ∃ z, z = T465.heap.size := ⟨_, rfl⟩
      obtain ⟨T473, h473, X473, e473, E473, A473, D473, -, st473⟩ := newO X465 hx hZ hown (wd hw 52 rfl) (wd hw 3 rfl) (wd hw 2 rfl) rfl (g := (mkF m 231 #[.val (.int p0_0), .val (.int p0_1), .val (.int p0_2), .val (.int p0_3), .val (.int p0_4), .val (.int p0_5), .val (.int (2 : Int32)), .val (.int (0 : Int32)), .unset, .val (.ref b448), .val (.int (4 : Int32)), .val (.int (4 : Int32)), .val (.ref b452)] [])) rfl (hb hby at_231) (by decide) (by decide)
      rw [← g473] at A473 D473 st473
      have ne474 : b448 ≠ b473 := Nat.ne_of_lt (Nat.lt_of_lt_of_le F469.lt (Nat.le_of_eq g473.symm))
      have ne475 : d448 ≠ b473 := Nat.ne_of_lt (Nat.lt_of_lt_of_le F472.lt (Nat.le_of_eq g473.symm))
      have ne476 : b452 ≠ b473 := Nat.ne_of_lt (Nat.lt_of_lt_of_le G465_0.lt (Nat.le_of_eq g473.symm))
      have sfn473 := Safe.new (Z := Z) (EL := consts_1) (vm := T448.vm) (Nat.le_of_eq g473.symm)
      have sf477 := Safe.ext E473 hCR.1 sf466
      have sf478 := Safe.ext E473 hCR.1 sfn473
      have hCR := hCR.trans (CHr.ext E473 hCR.1)
      have hk := Nat.le_trans hk E473.1
      have gg473 : n0 ≤ b473 := Nat.le_trans Zs465 (Nat.le_of_eq g473.symm)
      have sz473 : h0.size ≤ b473 := Nat.le_trans K465.1 (Nat.le_of_eq g473.symm)
      have Zs473 : n0 ≤ h473.size := Nat.le_trans Zs465 E473.1
      have K473 : Keep h0 h473 [] := K465.ext E473
      have F479 := F467.ext E473
      have F480 := F468.ext E473
      have F481 := F469.ext E473
      have F482 := F470.ext E473
      have F483 := F471.ext E473
      have F484 := F472.ext E473
      have F485 := G465_0.ext E473
      have F486 : Fld Z h473 b473 "java/lang/String" "value" "[B" .null := D473 (Or.inr (wd hw 5 rfl)) (ty := (.array .byte)) (by decide)
      have F487 : Fld Z h473 b473 "java/lang/String" "coder" "B" (.int (0 : Int32)) := D473 (Or.inr (wd hw 6 rfl)) (ty := .byte) (by decide)
      obtain ⟨_, _, ⟨T488, L488, k488, n488⟩, -, X488, ⟨Lc488, hQ488, l488, y488, z488⟩, st488⟩ := X473.specialBack hx (y := (⟨"java/lang/String", "<init>", "([C)V"⟩ : MethodName)) rfl hown (mvT hZ (wd hw 53 rfl)) (mvT hZ (wd hw 54 rfl)) (mvT hZ (wd hw 55 rfl)) (by decide) (StrChars.Road.backV (W := 1) hZ (fun d hd => hw d (own_sub_backV d hd)) (kI := 4) (wd hw 3 rfl) (cs := cb_465) (bs := cb_465.map (fun c => c.toInt8.toInt32)) (n := 4) gg473 Zs473 A473 F486 F487 F485 F479 hcs (P465_0.trans (by decide)) rfl (by decide) (by decide) P465_1 rfl (by decide) (by decide)) (g := (mkF m 237 #[.val (.int p0_0), .val (.int p0_1), .val (.int p0_2), .val (.int p0_3), .val (.int p0_4), .val (.int p0_5), .val (.int (2 : Int32)), .val (.int (0 : Int32)), .unset, .val (.ref b448), .val (.int (4 : Int32)), .val (.int (4 : Int32)), .val (.ref b452)] [(.ref b452), (.ref b473), (.ref b473)])) rfl (by rw [hml]; rfl) (Steps.refl _) (a := b473) (argsL := [(.ref b452)]) (rest := [(.ref b473)]) (lenOf pd_13 rfl) rfl (by show 2 * 0 + _ ≤ _; exact Nat.le_of_eq rfl) (hb hby at_237) (fun _ _ => ⟨rfl, e473, (by decide : 4 + 1 ≤ _), (by decide : 28 + 4 ≤ _)⟩)
      dsimp only [Pt.U, Pt.locs, Pt.cells, Pt.slots] at X488 l488 y488 z488 st488 hQ488
      rw [l488, y488, z488] at X488
      obtain ⟨rfl, N488q, Kc488, G488_0, G488_1, t488, kb488, ggt488, szt488, nex488, G488_2, G488_3⟩ := hQ488
      have szz488 : h0.size ≤ t488 := Nat.le_trans K473.1 szt488
      have Zs488 : n0 ≤ T488.heap.size := Nat.le_trans Zs473 Kc488.1
      have K488 : Keep h0 T488.heap [] := K473.trans Kc488 (allS (Or.inr sz473) all0)
      have sf489 := Safe.keep Kc488 (sfS sf478 sf0) hCR.1 sf477
      have sf490 := Safe.keep Kc488 (sfS sf478 sf0) hCR.1 sf478
      have hCR := hCR.trans (CHr.keep Kc488 (sfS sf478 sf0) hCR.1)
      have hk := Nat.le_trans hk Kc488.1
      have F491 := own_stakeep F479 Kc488 (allS (own_nsE A473) all0)
      have F492 := own_stakeep F480 Kc488 (allS (own_nsE A473) all0)
      have F493 := F481.keep Kc488
      have F494 := F482.keep Kc488 (ninS ne474 nin0)
      have F495 := F483.keep Kc488 (ninS ne474 nin0)
      have F496 := F484.keep Kc488 (ninS ne475 nin0)
      have F497 := F485.keep Kc488 (ninS ne476 nin0)
      have N488 := Fr.app N465 N488q
      have k498 : ∀ t, Steps p.tables e below (T488.setTop (mkF m 242 #[.val (.int p0_0), .val (.int p0_1), .val (.int p0_2), .val (.int p0_3), .val (.int p0_4), .val (.int p0_5), .val (.int (2 : Int32)), .val (.int (0 : Int32)), .val (.ref b473), .val (.ref b448), .val (.int (4 : Int32)), .val (.int (4 : Int32)), .val (.ref b452)] [])) t → Steps p.tables e below (s₁.setTop (entryFrame m #[(.int p0_0), (.int p0_1), (.int p0_2), (.int p0_3), (.int p0_4), (.int p0_5)] maxLocals)) t := by
        intro t k
        refine k462 t ?_
        refine st465 _ ?_
        refine XS.iload X465.here hx rfl (hb hby at_208) rfl ?_
        refine XS.iconst X465.here hx rfl (hb hby at_210) ?_
        refine XS.icmpYes X465.here hx rfl (pc0 := 211) (pc' := 231) rfl (hb hby at_211) rfl (feq (by decide : ¬ ((0 : Int32) = (1 : Int32)))).2 (by decide) (by decide) ?_
        refine st473 _ ?_
        refine XS.dup X473.here hx rfl (hb hby at_234) rfl rfl ?_
        refine XS.aload X473.here hx rfl (hb hby at_235) rfl rfl ?_
        refine st488.trans ?_
        show Steps p.tables e below (T488.setTop (mkF m 240 #[.val (.int p0_0), .val (.int p0_1), .val (.int p0_2), .val (.int p0_3), .val (.int p0_4), .val (.int p0_5), .val (.int (2 : Int32)), .val (.int (0 : Int32)), .unset, .val (.ref b448), .val (.int (4 : Int32)), .val (.int (4 : Int32)), .val (.ref b452)] [(.ref b473)])) _
        refine XS.astore X488.here hx rfl (hb hby at_240) rfl rfl (l' := #[.val (.int p0_0), .val (.int p0_1), .val (.int p0_2), .val (.int p0_3), .val (.int p0_4), .val (.int p0_5), .val (.int (2 : Int32)), .val (.int (0 : Int32)), .val (.ref b473), .val (.ref b448), .val (.int (4 : Int32)), .val (.int (4 : Int32)), .val (.ref b452)]) rfl ?_
        exact k
      obtain ⟨t_, o_, ss_, s2_, s3_, v_, L_, hv_, hq_, hf_⟩ := sgs1 hw hEL wS h0 p0_0 p0_1 p0_2 p0_3 p0_4 p0_5 (2 : Int32) (0 : Int32) b473 (.val (.int (4 : Int32))) (.val (.ref b452)) b448 (.val (.int (4 : Int32))) u_EMPTY u__VALUES cl_u__VALUES u_RESPONSE_TIME u_THROUGHPUT u_COST u_RESPONSE_TIME_column u_RESPONSE_TIME_column_value cl_u_RESPONSE_TIME_column_value u_THROUGHPUT_column u_THROUGHPUT_column_value cl_u_THROUGHPUT_column_value u_COST_column u_COST_column_value cl_u_COST_column_value cs t488 kb488 (4 : Int32) cb_465 T488.heap n0 Zs488 S_EMPTY E_u_EMPTY F_u_EMPTY_value S__VALUES E_u__VALUES S_RESPONSE_TIME E_u_RESPONSE_TIME S_THROUGHPUT E_u_THROUGHPUT S_COST E_u_COST F_u_RESPONSE_TIME_column E_u_RESPONSE_TIME_column F_u_RESPONSE_TIME_column_coder F_u_RESPONSE_TIME_column_value F_u_THROUGHPUT_column E_u_THROUGHPUT_column F_u_THROUGHPUT_column_coder F_u_THROUGHPUT_column_value F_u_COST_column E_u_COST_column F_u_COST_column_coder F_u_COST_column_value V_u__VALUES V_u_RESPONSE_TIME_column_value V_u_THROUGHPUT_column_value V_u_COST_column_value K488 F491 G488_0 G488_2 G488_1 G488_3 hcs (Or.inr ⟨_, rfl, rfl⟩) (by rw [P465_0]; rfl) P465_1 (by rw [P465_0]; decide) (X488.more (by decide) (by decide)) hx hZ hby hml hown Bd.returns (by first | assumption | exact BodyLoose.notSynchronized (by assumption) | exact Body.notSynchronized (by assumption)) rfl N488 hh hS hk hCR
      exact ⟨t_, o_, k498 _ ss_, s2_, s3_, v_, L_, hv_, hq_, hf_⟩
    · skip
      obtain ⟨b499, T499, h499, k499, d499, kb499, X499, e499, E499, hS, hk, hZ, hown, Ex499, Fc499, Fv499, V499, lta499, ltb499, hC499, hL499, hsf499, st499⟩ := ldcCH X0 hx hZ hown (wd hw 123 rfl) wS e0 hS hk hEL (List.mem_of_getElem? (i := 2) rfl) hCR.1 (vs := [(.int (99 : Int32)), (.int (111 : Int32)), (.int (115 : Int32)), (.int (116 : Int32))]) (z := (4 : Int32)) ⟨by decide, rfl⟩ (by decide) rfl (g := (mkF m 135 #[.val (.int p0_0), .val (.int p0_1), .val (.int p0_2), .val (.int p0_3), .val (.int p0_4), .val (.int p0_5), .val (.int (2 : Int32)), .val (.int (1 : Int32)), .unset, .unset, .unset, .unset, .unset] [])) rfl (hb hby at_135) (n := 16) (by decide) (by decide) (by decide) (by decide)
      have hCR := hCR.trans hC499
      have Zs499 : n0 ≤ h499.size := Nat.le_trans Z0 E499.1
      have K499 : Keep h0 h499 [] := (Keep.refl h0 []).ext E499
      have F500 := Sc.ext E499
      have F501 := Sf.ext E499
      obtain ⟨cq502, kq502, q502a, q502b, q502c⟩ := isOf hZ e499 Ex499
      obtain ⟨_, _, ⟨T502, L502, k502, n502⟩, -, X502, ⟨Lc502, hQ502, l502, y502, z502⟩, st502⟩ := X499.virtualBack hx (y := (⟨"java/lang/String", "length", "()I"⟩ : MethodName)) (z := (⟨"java/lang/String", "length", "()I"⟩ : MethodName)) hown (mvT hZ (wd hw 9 rfl)) (mvT hZ (wd hw 10 rfl)) (notFace_of_selects (args := #[]) (mvT hZ (wd hw 12 rfl))) (mvT hZ (wd hw 12 rfl)) (mvT hZ (wd hw 11 rfl)) (by decide) (StrChars.Road.lenW (W := 0) hZ (fun d hd => hw d (own_sub_lenW d hd)) (kI := 4) (wd hw 3 rfl) (cs := own_LC) Ex499 Fv499 Fc499 V499 own_codC own_bdC F500 hcs (by decide) (by decide) (by decide)) q502a q502c (g := (mkF m 141 #[.val (.int p0_0), .val (.int p0_1), .val (.int p0_2), .val (.int p0_3), .val (.int p0_4), .val (.int p0_5), .val (.int (2 : Int32)), .val (.int (1 : Int32)), .unset, .val (.ref b499), .unset, .unset, .unset] [(.ref b499)])) rfl (by rw [hml]; rfl) (Steps.refl _) (argsL := []) (rest := []) (lenOf pd_1 rfl) rfl (by show 2 * 0 + _ ≤ _; exact Nat.le_of_eq rfl) (hb hby at_141) (fun _ _ => ⟨rfl, e499, (by decide : 2 + 0 ≤ _), (by decide : 20 + 0 ≤ _)⟩)
      dsimp only [Pt.U, Pt.locs, Pt.cells, Pt.slots] at X502 l502 y502 z502 st502 hQ502
      rw [l502, y502, z502] at X502
      obtain ⟨rfl, rfl, eh502⟩ := hQ502
      have N502 := Fr.app N0 (Fr.nil n0)
      obtain ⟨b503, g503⟩ : ∃ z, z = h499.size := ⟨_, rfl⟩
      obtain ⟨T503, h503, k503, X503, e503, E503, A503, st503⟩ := newP X502 hx hZ (wd hw 22 rfl) eh502 (g := (mkF m 190 #[.val (.int p0_0), .val (.int p0_1), .val (.int p0_2), .val (.int p0_3), .val (.int p0_4), .val (.int p0_5), .val (.int (2 : Int32)), .val (.int (1 : Int32)), .unset, .val (.ref b499), .val (.int (4 : Int32)), .val (.int (4 : Int32)), .unset] [(.int (4 : Int32))])) rfl (hb hby at_190) rfl (by decide) (cap := 4) (by decide) (by decide) (by decide) (by decide)
      rw [← g503] at A503 st503
      have ne504 : b499 ≠ b503 := Nat.ne_of_lt (Nat.lt_of_lt_of_le Ex499.lt (Nat.le_of_eq g503.symm))
      have ne505 : d499 ≠ b503 := Nat.ne_of_lt (Nat.lt_of_lt_of_le V499.lt (Nat.le_of_eq g503.symm))
      have sfn503 := Safe.new (Z := Z) (EL := consts_1) (vm := T499.vm) (Nat.le_of_eq g503.symm)
      have sf506 := Safe.ext E503 hCR.1 sfn503
      have hCR := hCR.trans (CHr.ext E503 hCR.1)
      have hk := Nat.le_trans hk E503.1
      have gg503 : n0 ≤ b503 := Nat.le_trans Zs499 (Nat.le_of_eq g503.symm)
      have sz503 : h0.size ≤ b503 := Nat.le_trans K499.1 (Nat.le_of_eq g503.symm)
      have Zs503 : n0 ≤ h503.size := Nat.le_trans Zs499 E503.1
      have K503 : Keep h0 h503 [] := K499.ext E503
      have F507 := F500.ext E503
      have F508 := F501.ext E503
      have F509 := Ex499.ext E503
      have F510 := Fc499.ext E503
      have F511 := Fv499.ext E503
      have F512 := V499.ext E503
      have V503 : Arv Z h503 b503 k503 .char (4 : Int32) [(.int (0 : Int32)), (.int (0 : Int32)), (.int (0 : Int32)), (.int (0 : Int32))] (.int (0 : Int32)) := (Arv.new A503 (by decide)).pad (pad_rep [] (.int (0 : Int32)) 4)
      have k513 : ∀ t, Steps p.tables e below (T503.setTop (mkF m 205 #[.val (.int p0_0), .val (.int p0_1), .val (.int p0_2), .val (.int p0_3), .val (.int p0_4), .val (.int p0_5), .val (.int (2 : Int32)), .val (.int (1 : Int32)), .unset, .val (.ref b499), .val (.int (4 : Int32)), .val (.int (4 : Int32)), .val (.ref b503)] [(.int (p0_4 &&& (255 : Int32)).toUInt32.toUInt16.toUInt32.toInt32), (.ref b499), (.ref b503)])) t → Steps p.tables e below (s₁.setTop (entryFrame m #[(.int p0_0), (.int p0_1), (.int p0_2), (.int p0_3), (.int p0_4), (.int p0_5)] maxLocals)) t := by
        intro t k
        refine k1 t ?_
        refine XS.iload X0.here hx rfl (hb hby at_16) rfl ?_
        refine XS.iconst X0.here hx rfl (hb hby at_18) ?_
        refine XS.icmpYes X0.here hx rfl (pc0 := 19) (pc' := 114) rfl (hb hby at_19) rfl (feq (by decide : ¬ ((2 : Int32) = (3 : Int32)))).2 (by decide) (by decide) ?_
        refine XS.iload X0.here hx rfl (hb hby at_114) rfl ?_
        refine XS.ifYes X0.here hx rfl (pc0 := 116) (pc' := 124) rfl (hb hby at_116) rfl ((if0 _ _).trans (feq (by decide : ¬ ((2 : Int32) = (0 : Int32)))).2) (by decide) (by decide) ?_
        show Steps p.tables e below (s₁.setTop (mkF m 124 #[.val (.int p0_0), .val (.int p0_1), .val (.int p0_2), .val (.int p0_3), .val (.int p0_4), .val (.int p0_5), .val (.int (2 : Int32)), .val (.int (1 : Int32)), .unset, .unset, .unset, .unset, .unset] [])) _
        refine XS.iload X0.here hx rfl (hb hby at_124) rfl ?_
        refine XS.iconst X0.here hx rfl (hb hby at_126) ?_
        refine XS.icmpYes X0.here hx rfl (pc0 := 127) (pc' := 135) rfl (hb hby at_127) rfl (feq (by decide : ¬ ((2 : Int32) = (1 : Int32)))).2 (by decide) (by decide) ?_
        refine st499 _ ?_
        refine XS.astore X499.here hx rfl (hb hby at_137) rfl rfl (l' := #[.val (.int p0_0), .val (.int p0_1), .val (.int p0_2), .val (.int p0_3), .val (.int p0_4), .val (.int p0_5), .val (.int (2 : Int32)), .val (.int (1 : Int32)), .unset, .val (.ref b499), .unset, .unset, .unset]) rfl ?_
        refine XS.aload X499.here hx rfl (hb hby at_139) rfl rfl ?_
        refine st502.trans ?_
        refine XS.istore X502.here hx rfl (hb hby at_144) rfl (l' := #[.val (.int p0_0), .val (.int p0_1), .val (.int p0_2), .val (.int p0_3), .val (.int p0_4), .val (.int p0_5), .val (.int (2 : Int32)), .val (.int (1 : Int32)), .unset, .val (.ref b499), .val (.int (4 : Int32)), .unset, .unset]) rfl ?_
        refine XS.iload X502.here hx rfl (hb hby at_146) rfl ?_
        refine XS.iconst X502.here hx rfl (hb hby at_148) ?_
        refine XS.icmpYes X502.here hx rfl (pc0 := 149) (pc' := 158) rfl (hb hby at_149) rfl (feq (by decide : ¬ ((1 : Int32) = (4 : Int32)))).2 (by decide) (by decide) ?_
        refine XS.iload X502.here hx rfl (hb hby at_158) rfl ?_
        refine XS.iconst X502.here hx rfl (hb hby at_160) ?_
        refine XS.icmpYes X502.here hx rfl (pc0 := 161) (pc' := 171) rfl (hb hby at_161) rfl (feq (by decide : ¬ ((1 : Int32) = (2 : Int32)))).2 (by decide) (by decide) ?_
        refine XS.iload X502.here hx rfl (hb hby at_171) rfl ?_
        refine XS.iconst X502.here hx rfl (hb hby at_173) ?_
        refine XS.icmpYes X502.here hx rfl (pc0 := 174) (pc' := 184) rfl (hb hby at_174) rfl (feq (by decide : ¬ ((1 : Int32) = (3 : Int32)))).2 (by decide) (by decide) ?_
        refine XS.iload X502.here hx rfl (hb hby at_184) rfl ?_
        show Steps p.tables e below (T502.setTop (mkF m 186 #[.val (.int p0_0), .val (.int p0_1), .val (.int p0_2), .val (.int p0_3), .val (.int p0_4), .val (.int p0_5), .val (.int (2 : Int32)), .val (.int (1 : Int32)), .unset, .val (.ref b499), .val (.int (4 : Int32)), .unset, .unset] [(.int (4 : Int32))])) _
        refine XS.istore X502.here hx rfl (hb hby at_186) rfl (l' := #[.val (.int p0_0), .val (.int p0_1), .val (.int p0_2), .val (.int p0_3), .val (.int p0_4), .val (.int p0_5), .val (.int (2 : Int32)), .val (.int (1 : Int32)), .unset, .val (.ref b499), .val (.int (4 : Int32)), .val (.int (4 : Int32)), .unset]) rfl ?_
        refine XS.iload X502.here hx rfl (hb hby at_188) rfl ?_
        refine st503 _ ?_
        refine XS.astore X503.here hx rfl (hb hby at_192) rfl rfl (l' := #[.val (.int p0_0), .val (.int p0_1), .val (.int p0_2), .val (.int p0_3), .val (.int p0_4), .val (.int p0_5), .val (.int (2 : Int32)), .val (.int (1 : Int32)), .unset, .val (.ref b499), .val (.int (4 : Int32)), .val (.int (4 : Int32)), .val (.ref b503)]) rfl ?_
        refine XS.aload X503.here hx rfl (hb hby at_194) rfl rfl ?_
        refine XS.aload X503.here hx rfl (hb hby at_196) rfl rfl ?_
        refine XS.iload X503.here hx rfl (hb hby at_198) rfl ?_
        refine XS.sipush X503.here hx rfl (hb hby at_200) ?_
        refine XS.iand X503.here hx rfl (hb hby at_203) rfl ?_
        refine XS.i2c X503.here hx rfl (hb hby at_204) rfl ?_
        exact k
      rw [show (p0_4 &&& (255 : Int32)).toUInt32.toUInt16.toUInt32.toInt32 = (p0_4 &&& (255 : Int32)) from own_i2c _ (own_m255 _)] at k513
      have Vr514 : Arv Z h503 b503 k503 .char (4 : Int32) (List.map Value.int (List.replicate 4 (0 : Int32))) (.int (0 : Int32)) := V503
      have Vl515 : Arv Z h503 d499 kb499 .byte (Int32.ofNat own_LC.length) (List.map Value.int (List.map (fun c => c.toInt8.toInt32) own_LC)) (.int (0 : Int32)) := own_lsC ▸ F512
      obtain ⟨_, _, ⟨T516, L516, k516, n516⟩, -, X516, ⟨Lc516, hQ516, l516, y516, z516⟩, st516⟩ := Jvm.LawKit.callS X503 hx (y := (⟨"com/example/leanweave/leanweave/QosMeasureOfColumnPinLaw", "fill", "([CLjava/lang/String;C)V"⟩ : MethodName)) hown (mvT hZ (wd hw 23 rfl)) (mvT hZ (wd hw 24 rfl)) (mvT hZ (wd hw 25 rfl)) (mvT hZ (wd hw 26 rfl)) (by decide) (backOf (W := 0) (rm4 l Z a0 hw [] b503 b499 (p0_4 &&& (255 : Int32)) k503 (4 : Int32) (List.replicate 4 (0 : Int32)) d499 kb499 own_LC cs fm h503 n0 Zs503 Vr514 F509 F511 F510 Vl515 F507 F508 (by decide : (List.replicate 4 (0 : Int32)).length = (4 : Int32).toNatClampNeg) (by decide : ∀ c ∈ (List.replicate 4 (0 : Int32)), ¬ c < 0 ∧ ¬ (255 : Int32) < c) (by decide : ∀ c ∈ own_LC, ¬ c < 0 ∧ ¬ (255 : Int32) < c) (by decide : own_LC.length ≤ 4000) hcs hfm (own_m255 _).1 (own_m255 _).2 ne504 ne505 gg503) hZ (wd hw 26 rfl) (wd hw 25 rfl) (by decide) (by decide)) (g := (mkF m 205 #[.val (.int p0_0), .val (.int p0_1), .val (.int p0_2), .val (.int p0_3), .val (.int p0_4), .val (.int p0_5), .val (.int (2 : Int32)), .val (.int (1 : Int32)), .unset, .val (.ref b499), .val (.int (4 : Int32)), .val (.int (4 : Int32)), .val (.ref b503)] [(.int (p0_4 &&& (255 : Int32))), (.ref b499), (.ref b503)])) rfl (by rw [hml]; rfl) (argsL := [(.ref b503), (.ref b499), (.int (p0_4 &&& (255 : Int32)))]) (rest := []) (lenOf pd_12 rfl) rfl (by show 2 * 0 + _ ≤ _; exact Nat.le_of_eq rfl) (hb hby at_205) (fun _ _ => ⟨rfl, e503, (by decide : 3 + 0 ≤ _), (by decide : 24 + 0 ≤ _)⟩)
      dsimp only [Pt.U, Pt.locs, Pt.cells, Pt.slots] at X516 l516 y516 z516 st516 hQ516
      rw [l516, y516, z516] at X516
      obtain ⟨cb_516, rfl, N516q, Kc516, G516_0, P516_0, P516_1⟩ := hQ516
      have Zs516 : n0 ≤ T516.heap.size := Nat.le_trans Zs503 Kc516.1
      have K516 : Keep h0 T516.heap [] := K503.trans Kc516 (allS (Or.inr sz503) all0)
      have sf517 := Safe.keep Kc516 (sfS (Safe.arv hZ.alike Vr514 (by decide)) sf0) hCR.1 sf506
      have hCR := hCR.trans (CHr.keep Kc516 (sfS (Safe.arv hZ.alike Vr514 (by decide)) sf0) hCR.1)
      have hk := Nat.le_trans hk Kc516.1
      have F518 := own_stakeep F507 Kc516 (allS (own_nsV Vr514) all0)
      have F519 := own_stakeep F508 Kc516 (allS (own_nsV Vr514) all0)
      have F520 := F509.keep Kc516
      have F521 := F510.keep Kc516 (ninS ne504 nin0)
      have F522 := F511.keep Kc516 (ninS ne504 nin0)
      have F523 := Vl515.keep Kc516 (ninS ne505 nin0)
      have N516 := Fr.app N502 N516q
      have k524 : ∀ t, Steps p.tables e below (T516.setTop (mkF m 223 #[.val (.int p0_0), .val (.int p0_1), .val (.int p0_2), .val (.int p0_3), .val (.int p0_4), .val (.int p0_5), .val (.int (2 : Int32)), .val (.int (1 : Int32)), .unset, .val (.ref b499), .val (.int (4 : Int32)), .val (.int (4 : Int32)), .val (.ref b503)] [(.int ((p0_2 &&& (2147483647 : Int32)) % (4 : Int32))), (.ref b503)])) t → Steps p.tables e below (s₁.setTop (entryFrame m #[(.int p0_0), (.int p0_1), (.int p0_2), (.int p0_3), (.int p0_4), (.int p0_5)] maxLocals)) t := by
        intro t k
        refine k513 t ?_
        refine st516 _ ?_
        refine XS.iload X516.here hx rfl (hb hby at_208) rfl ?_
        refine XS.iconst X516.here hx rfl (hb hby at_210) ?_
        refine XS.icmpNo X516.here hx rfl (hb hby at_211) rfl (teq (by decide : (1 : Int32) = (1 : Int32))).2 ?_
        refine XS.aload X516.here hx rfl (hb hby at_214) rfl rfl ?_
        refine XS.iloadN X516.here hx rfl (hb hby at_216) rfl ?_
        refine X516.ldcInt hx hown (mvT hZ (hw _ (List.mem_of_getElem? (i := 0) rfl))) (g := (mkF m 217 #[.val (.int p0_0), .val (.int p0_1), .val (.int p0_2), .val (.int p0_3), .val (.int p0_4), .val (.int p0_5), .val (.int (2 : Int32)), .val (.int (1 : Int32)), .unset, .val (.ref b499), .val (.int (4 : Int32)), .val (.int (4 : Int32)), .val (.ref b503)] [(.int p0_2), (.ref b503)])) rfl (hb hby at_217) _ ?_
        refine XS.iand X516.here hx rfl (hb hby at_219) rfl ?_
        show Steps p.tables e below (T516.setTop (mkF m 220 #[.val (.int p0_0), .val (.int p0_1), .val (.int p0_2), .val (.int p0_3), .val (.int p0_4), .val (.int p0_5), .val (.int (2 : Int32)), .val (.int (1 : Int32)), .unset, .val (.ref b499), .val (.int (4 : Int32)), .val (.int (4 : Int32)), .val (.ref b503)] [(.int (p0_2 &&& (2147483647 : Int32))), (.ref b503)])) _
        refine XS.iload X516.here hx rfl (hb hby at_220) rfl ?_
        refine iremM X516 hx rfl (hb hby at_222) rfl (by decide) ?_
        exact k
      obtain ⟨zj, hzj⟩ : ∃ z, z = ((p0_2 &&& (2147483647 : Int32)) % (4 : Int32)) := ⟨_, rfl⟩
      rw [← hzj] at k524
      have hj0 := own_ji4 p0_2
      rw [← hzj] at hj0
      have k525 : ∀ t, Steps p.tables e below (T516.setTop (mkF m 230 #[.val (.int p0_0), .val (.int p0_1), .val (.int p0_2), .val (.int p0_3), .val (.int p0_4), .val (.int p0_5), .val (.int (2 : Int32)), .val (.int (1 : Int32)), .unset, .val (.ref b499), .val (.int (4 : Int32)), .val (.int (4 : Int32)), .val (.ref b503)] [(.int (p0_5 &&& (255 : Int32)).toUInt32.toUInt16.toUInt32.toInt32), (.int zj), (.ref b503)])) t → Steps p.tables e below (s₁.setTop (entryFrame m #[(.int p0_0), (.int p0_1), (.int p0_2), (.int p0_3), (.int p0_4), (.int p0_5)] maxLocals)) t := by
        intro t k
        refine k524 t ?_
        refine XS.iload X516.here hx rfl (hb hby at_223) rfl ?_
        refine XS.sipush X516.here hx rfl (hb hby at_225) ?_
        refine XS.iand X516.here hx rfl (hb hby at_228) rfl ?_
        refine XS.i2c X516.here hx rfl (hb hby at_229) rfl ?_
        exact k
      rw [show (p0_5 &&& (255 : Int32)).toUInt32.toUInt16.toUInt32.toInt32 = (p0_5 &&& (255 : Int32)) from own_i2c _ (own_m255 _)] at k525
      obtain ⟨cl526, Ar526, qc526, Sz526, Nn526, Hh526, Gg526⟩ := (id G516_0)
      have hin526 : ¬ (zj < 0 ∨ cl526.slots.size ≤ (zj).toNatClampNeg) := inb_of Sz526 ⟨hj0.1, hj0.2⟩
      obtain ⟨T526, h526, X526, e526, W526, st526⟩ := stC X516 hx hZ rfl Ar526 (j := zj) hin526 (g := (mkF m 230 #[.val (.int p0_0), .val (.int p0_1), .val (.int p0_2), .val (.int p0_3), .val (.int p0_4), .val (.int p0_5), .val (.int (2 : Int32)), .val (.int (1 : Int32)), .unset, .val (.ref b499), .val (.int (4 : Int32)), .val (.int (4 : Int32)), .val (.ref b503)] [(.int (p0_5 &&& (255 : Int32))), (.int zj), (.ref b503)])) rfl rfl (hb hby at_230)
      have sf527 := Safe.wr W526 (Safe.arv hZ.alike G516_0 (by decide)) hCR.1 sf517
      have hCR := hCR.trans (CHr.wr W526 (Safe.arv hZ.alike G516_0 (by decide)) hCR.1)
      have hk := Nat.le_trans hk (Nat.le_of_eq W526.size.symm)
      have F528 := F518.wr W526
      have F529 := F519.wr W526
      have F530 := F520.wr W526
      have F531 := F521.other W526 (Or.inl ne504)
      have F532 := F522.other W526 (Or.inl ne504)
      have F533 := F523.other W526 ne505
      have V526 := own_setL Ar526 qc526 Sz526 Nn526 Hh526 Gg526 (own_m255 _) W526 P516_0 hj0.1 hj0.2
      have N526 := Fr.snoc X526 N516 gg503
      have K526 : Keep h0 h526 [] := K516.wr W526 (Or.inr sz503)
      have Zs526 : n0 ≤ h526.size := by rw [W526.size]; exact Zs516
      obtain ⟨lq535, hd535⟩ : ∃ z, z = (cb_516.set (zj).toNatClampNeg (p0_5 &&& (255 : Int32))) := ⟨_, rfl⟩
      rw [← hd535] at V526
      have hle535 : lq535.length = (4 : Int32).toNatClampNeg := by rw [hd535]; exact own_setlen P516_0
      have hbe535 : ∀ c ∈ lq535, ¬ c < 0 ∧ ¬ (255 : Int32) < c := by rw [hd535]; exact own_setall P516_1 (own_m255 _)
      obtain ⟨b536, g536⟩ : ∃ z, z = h526.size := ⟨_, rfl⟩
      obtain ⟨T536, h536, X536, e536, E536, A536, D536, -, st536⟩ := newO X526 hx hZ hown (wd hw 52 rfl) (wd hw 3 rfl) (wd hw 2 rfl) e526 (g := (mkF m 231 #[.val (.int p0_0), .val (.int p0_1), .val (.int p0_2), .val (.int p0_3), .val (.int p0_4), .val (.int p0_5), .val (.int (2 : Int32)), .val (.int (1 : Int32)), .unset, .val (.ref b499), .val (.int (4 : Int32)), .val (.int (4 : Int32)), .val (.ref b503)] [])) rfl (hb hby at_231) (by decide) (by decide)
      rw [← g536] at A536 D536 st536
      have ne537 : b499 ≠ b536 := Nat.ne_of_lt (Nat.lt_of_lt_of_le F530.lt (Nat.le_of_eq g536.symm))
      have ne538 : d499 ≠ b536 := Nat.ne_of_lt (Nat.lt_of_lt_of_le F533.lt (Nat.le_of_eq g536.symm))
      have ne539 : b503 ≠ b536 := Nat.ne_of_lt (Nat.lt_of_lt_of_le V526.lt (Nat.le_of_eq g536.symm))
      have sfn536 := Safe.new (Z := Z) (EL := consts_1) (vm := T499.vm) (Nat.le_of_eq g536.symm)
      have sf540 := Safe.ext E536 hCR.1 sf527
      have sf541 := Safe.ext E536 hCR.1 sfn536
      have hCR := hCR.trans (CHr.ext E536 hCR.1)
      have hk := Nat.le_trans hk E536.1
      have gg536 : n0 ≤ b536 := Nat.le_trans Zs526 (Nat.le_of_eq g536.symm)
      have sz536 : h0.size ≤ b536 := Nat.le_trans K526.1 (Nat.le_of_eq g536.symm)
      have Zs536 : n0 ≤ h536.size := Nat.le_trans Zs526 E536.1
      have K536 : Keep h0 h536 [] := K526.ext E536
      have F542 := F528.ext E536
      have F543 := F529.ext E536
      have F544 := F530.ext E536
      have F545 := F531.ext E536
      have F546 := F532.ext E536
      have F547 := F533.ext E536
      have F548 := V526.ext E536
      have F549 : Fld Z h536 b536 "java/lang/String" "value" "[B" .null := D536 (Or.inr (wd hw 5 rfl)) (ty := (.array .byte)) (by decide)
      have F550 : Fld Z h536 b536 "java/lang/String" "coder" "B" (.int (0 : Int32)) := D536 (Or.inr (wd hw 6 rfl)) (ty := .byte) (by decide)
      obtain ⟨_, _, ⟨T551, L551, k551, n551⟩, -, X551, ⟨Lc551, hQ551, l551, y551, z551⟩, st551⟩ := X536.specialBack hx (y := (⟨"java/lang/String", "<init>", "([C)V"⟩ : MethodName)) rfl hown (mvT hZ (wd hw 53 rfl)) (mvT hZ (wd hw 54 rfl)) (mvT hZ (wd hw 55 rfl)) (by decide) (StrChars.Road.backV (W := 1) hZ (fun d hd => hw d (own_sub_backV d hd)) (kI := 4) (wd hw 3 rfl) (cs := lq535) (bs := lq535.map (fun c => c.toInt8.toInt32)) (n := 4) gg536 Zs536 A536 F549 F550 F548 F542 hcs (hle535.trans (by decide)) rfl (by decide) (by decide) hbe535 rfl (by decide) (by decide)) (g := (mkF m 237 #[.val (.int p0_0), .val (.int p0_1), .val (.int p0_2), .val (.int p0_3), .val (.int p0_4), .val (.int p0_5), .val (.int (2 : Int32)), .val (.int (1 : Int32)), .unset, .val (.ref b499), .val (.int (4 : Int32)), .val (.int (4 : Int32)), .val (.ref b503)] [(.ref b503), (.ref b536), (.ref b536)])) rfl (by rw [hml]; rfl) (Steps.refl _) (a := b536) (argsL := [(.ref b503)]) (rest := [(.ref b536)]) (lenOf pd_13 rfl) rfl (by show 2 * 0 + _ ≤ _; exact Nat.le_of_eq rfl) (hb hby at_237) (fun _ _ => ⟨rfl, e536, (by decide : 4 + 1 ≤ _), (by decide : 28 + 4 ≤ _)⟩)
      dsimp only [Pt.U, Pt.locs, Pt.cells, Pt.slots] at X551 l551 y551 z551 st551 hQ551
      rw [l551, y551, z551] at X551
      obtain ⟨rfl, N551q, Kc551, G551_0, G551_1, t551, kb551, ggt551, szt551, nex551, G551_2, G551_3⟩ := hQ551
      have szz551 : h0.size ≤ t551 := Nat.le_trans K536.1 szt551
      have Zs551 : n0 ≤ T551.heap.size := Nat.le_trans Zs536 Kc551.1
      have K551 : Keep h0 T551.heap [] := K536.trans Kc551 (allS (Or.inr sz536) all0)
      have sf552 := Safe.keep Kc551 (sfS sf541 sf0) hCR.1 sf540
      have sf553 := Safe.keep Kc551 (sfS sf541 sf0) hCR.1 sf541
      have hCR := hCR.trans (CHr.keep Kc551 (sfS sf541 sf0) hCR.1)
      have hk := Nat.le_trans hk Kc551.1
      have F554 := own_stakeep F542 Kc551 (allS (own_nsE A536) all0)
      have F555 := own_stakeep F543 Kc551 (allS (own_nsE A536) all0)
      have F556 := F544.keep Kc551
      have F557 := F545.keep Kc551 (ninS ne537 nin0)
      have F558 := F546.keep Kc551 (ninS ne537 nin0)
      have F559 := F547.keep Kc551 (ninS ne538 nin0)
      have F560 := F548.keep Kc551 (ninS ne539 nin0)
      have N551 := Fr.app N526 N551q
      have k561 : ∀ t, Steps p.tables e below (T551.setTop (mkF m 242 #[.val (.int p0_0), .val (.int p0_1), .val (.int p0_2), .val (.int p0_3), .val (.int p0_4), .val (.int p0_5), .val (.int (2 : Int32)), .val (.int (1 : Int32)), .val (.ref b536), .val (.ref b499), .val (.int (4 : Int32)), .val (.int (4 : Int32)), .val (.ref b503)] [])) t → Steps p.tables e below (s₁.setTop (entryFrame m #[(.int p0_0), (.int p0_1), (.int p0_2), (.int p0_3), (.int p0_4), (.int p0_5)] maxLocals)) t := by
        intro t k
        refine k525 t ?_
        refine st526 _ ?_
        refine st536 _ ?_
        refine XS.dup X536.here hx rfl (hb hby at_234) rfl rfl ?_
        refine XS.aload X536.here hx rfl (hb hby at_235) rfl rfl ?_
        refine st551.trans ?_
        refine XS.astore X551.here hx rfl (hb hby at_240) rfl rfl (l' := #[.val (.int p0_0), .val (.int p0_1), .val (.int p0_2), .val (.int p0_3), .val (.int p0_4), .val (.int p0_5), .val (.int (2 : Int32)), .val (.int (1 : Int32)), .val (.ref b536), .val (.ref b499), .val (.int (4 : Int32)), .val (.int (4 : Int32)), .val (.ref b503)]) rfl ?_
        exact k
      obtain ⟨t_, o_, ss_, s2_, s3_, v_, L_, hv_, hq_, hf_⟩ := sgs1 hw hEL wS h0 p0_0 p0_1 p0_2 p0_3 p0_4 p0_5 (2 : Int32) (1 : Int32) b536 (.val (.int (4 : Int32))) (.val (.ref b503)) b499 (.val (.int (4 : Int32))) u_EMPTY u__VALUES cl_u__VALUES u_RESPONSE_TIME u_THROUGHPUT u_COST u_RESPONSE_TIME_column u_RESPONSE_TIME_column_value cl_u_RESPONSE_TIME_column_value u_THROUGHPUT_column u_THROUGHPUT_column_value cl_u_THROUGHPUT_column_value u_COST_column u_COST_column_value cl_u_COST_column_value cs t551 kb551 (4 : Int32) lq535 T551.heap n0 Zs551 S_EMPTY E_u_EMPTY F_u_EMPTY_value S__VALUES E_u__VALUES S_RESPONSE_TIME E_u_RESPONSE_TIME S_THROUGHPUT E_u_THROUGHPUT S_COST E_u_COST F_u_RESPONSE_TIME_column E_u_RESPONSE_TIME_column F_u_RESPONSE_TIME_column_coder F_u_RESPONSE_TIME_column_value F_u_THROUGHPUT_column E_u_THROUGHPUT_column F_u_THROUGHPUT_column_coder F_u_THROUGHPUT_column_value F_u_COST_column E_u_COST_column F_u_COST_column_coder F_u_COST_column_value V_u__VALUES V_u_RESPONSE_TIME_column_value V_u_THROUGHPUT_column_value V_u_COST_column_value K551 F554 G551_0 G551_2 G551_1 G551_3 hcs (Or.inr ⟨_, rfl, rfl⟩) (by rw [hle535]; rfl) hbe535 (by rw [hle535]; decide) (X551.more (by decide) (by decide)) hx hZ hby hml hown Bd.returns (by first | assumption | exact BodyLoose.notSynchronized (by assumption) | exact Body.notSynchronized (by assumption)) rfl N551 hh hS hk hCR
      exact ⟨t_, o_, k561 _ ss_, s2_, s3_, v_, L_, hv_, hq_, hf_⟩
    · skip
      obtain ⟨b562, T562, h562, k562, d562, kb562, X562, e562, E562, hS, hk, hZ, hown, Ex562, Fc562, Fv562, V562, lta562, ltb562, hC562, hL562, hsf562, st562⟩ := ldcCH X0 hx hZ hown (wd hw 123 rfl) wS e0 hS hk hEL (List.mem_of_getElem? (i := 2) rfl) hCR.1 (vs := [(.int (99 : Int32)), (.int (111 : Int32)), (.int (115 : Int32)), (.int (116 : Int32))]) (z := (4 : Int32)) ⟨by decide, rfl⟩ (by decide) rfl (g := (mkF m 135 #[.val (.int p0_0), .val (.int p0_1), .val (.int p0_2), .val (.int p0_3), .val (.int p0_4), .val (.int p0_5), .val (.int (2 : Int32)), .val (.int (2 : Int32)), .unset, .unset, .unset, .unset, .unset] [])) rfl (hb hby at_135) (n := 16) (by decide) (by decide) (by decide) (by decide)
      have hCR := hCR.trans hC562
      have Zs562 : n0 ≤ h562.size := Nat.le_trans Z0 E562.1
      have K562 : Keep h0 h562 [] := (Keep.refl h0 []).ext E562
      have F563 := Sc.ext E562
      have F564 := Sf.ext E562
      obtain ⟨cq565, kq565, q565a, q565b, q565c⟩ := isOf hZ e562 Ex562
      obtain ⟨_, _, ⟨T565, L565, k565, n565⟩, -, X565, ⟨Lc565, hQ565, l565, y565, z565⟩, st565⟩ := X562.virtualBack hx (y := (⟨"java/lang/String", "length", "()I"⟩ : MethodName)) (z := (⟨"java/lang/String", "length", "()I"⟩ : MethodName)) hown (mvT hZ (wd hw 9 rfl)) (mvT hZ (wd hw 10 rfl)) (notFace_of_selects (args := #[]) (mvT hZ (wd hw 12 rfl))) (mvT hZ (wd hw 12 rfl)) (mvT hZ (wd hw 11 rfl)) (by decide) (StrChars.Road.lenW (W := 0) hZ (fun d hd => hw d (own_sub_lenW d hd)) (kI := 4) (wd hw 3 rfl) (cs := own_LC) Ex562 Fv562 Fc562 V562 own_codC own_bdC F563 hcs (by decide) (by decide) (by decide)) q565a q565c (g := (mkF m 141 #[.val (.int p0_0), .val (.int p0_1), .val (.int p0_2), .val (.int p0_3), .val (.int p0_4), .val (.int p0_5), .val (.int (2 : Int32)), .val (.int (2 : Int32)), .unset, .val (.ref b562), .unset, .unset, .unset] [(.ref b562)])) rfl (by rw [hml]; rfl) (Steps.refl _) (argsL := []) (rest := []) (lenOf pd_1 rfl) rfl (by show 2 * 0 + _ ≤ _; exact Nat.le_of_eq rfl) (hb hby at_141) (fun _ _ => ⟨rfl, e562, (by decide : 2 + 0 ≤ _), (by decide : 20 + 0 ≤ _)⟩)
      dsimp only [Pt.U, Pt.locs, Pt.cells, Pt.slots] at X565 l565 y565 z565 st565 hQ565
      rw [l565, y565, z565] at X565
      obtain ⟨rfl, rfl, eh565⟩ := hQ565
      have N565 := Fr.app N0 (Fr.nil n0)
      obtain ⟨b566, g566⟩ : ∃ z, z = h562.size := ⟨_, rfl⟩
      obtain ⟨T566, h566, k566, X566, e566, E566, A566, st566⟩ := newP X565 hx hZ (wd hw 22 rfl) eh565 (g := (mkF m 190 #[.val (.int p0_0), .val (.int p0_1), .val (.int p0_2), .val (.int p0_3), .val (.int p0_4), .val (.int p0_5), .val (.int (2 : Int32)), .val (.int (2 : Int32)), .unset, .val (.ref b562), .val (.int (4 : Int32)), .val (.int (3 : Int32)), .unset] [(.int (3 : Int32))])) rfl (hb hby at_190) rfl (by decide) (cap := 3) (by decide) (by decide) (by decide) (by decide)
      rw [← g566] at A566 st566
      have ne567 : b562 ≠ b566 := Nat.ne_of_lt (Nat.lt_of_lt_of_le Ex562.lt (Nat.le_of_eq g566.symm))
      have ne568 : d562 ≠ b566 := Nat.ne_of_lt (Nat.lt_of_lt_of_le V562.lt (Nat.le_of_eq g566.symm))
      have sfn566 := Safe.new (Z := Z) (EL := consts_1) (vm := T562.vm) (Nat.le_of_eq g566.symm)
      have sf569 := Safe.ext E566 hCR.1 sfn566
      have hCR := hCR.trans (CHr.ext E566 hCR.1)
      have hk := Nat.le_trans hk E566.1
      have gg566 : n0 ≤ b566 := Nat.le_trans Zs562 (Nat.le_of_eq g566.symm)
      have sz566 : h0.size ≤ b566 := Nat.le_trans K562.1 (Nat.le_of_eq g566.symm)
      have Zs566 : n0 ≤ h566.size := Nat.le_trans Zs562 E566.1
      have K566 : Keep h0 h566 [] := K562.ext E566
      have F570 := F563.ext E566
      have F571 := F564.ext E566
      have F572 := Ex562.ext E566
      have F573 := Fc562.ext E566
      have F574 := Fv562.ext E566
      have F575 := V562.ext E566
      have V566 : Arv Z h566 b566 k566 .char (3 : Int32) [(.int (0 : Int32)), (.int (0 : Int32)), (.int (0 : Int32))] (.int (0 : Int32)) := (Arv.new A566 (by decide)).pad (pad_rep [] (.int (0 : Int32)) 3)
      have k576 : ∀ t, Steps p.tables e below (T566.setTop (mkF m 205 #[.val (.int p0_0), .val (.int p0_1), .val (.int p0_2), .val (.int p0_3), .val (.int p0_4), .val (.int p0_5), .val (.int (2 : Int32)), .val (.int (2 : Int32)), .unset, .val (.ref b562), .val (.int (4 : Int32)), .val (.int (3 : Int32)), .val (.ref b566)] [(.int (p0_4 &&& (255 : Int32)).toUInt32.toUInt16.toUInt32.toInt32), (.ref b562), (.ref b566)])) t → Steps p.tables e below (s₁.setTop (entryFrame m #[(.int p0_0), (.int p0_1), (.int p0_2), (.int p0_3), (.int p0_4), (.int p0_5)] maxLocals)) t := by
        intro t k
        refine k1 t ?_
        refine XS.iload X0.here hx rfl (hb hby at_16) rfl ?_
        refine XS.iconst X0.here hx rfl (hb hby at_18) ?_
        refine XS.icmpYes X0.here hx rfl (pc0 := 19) (pc' := 114) rfl (hb hby at_19) rfl (feq (by decide : ¬ ((2 : Int32) = (3 : Int32)))).2 (by decide) (by decide) ?_
        refine XS.iload X0.here hx rfl (hb hby at_114) rfl ?_
        refine XS.ifYes X0.here hx rfl (pc0 := 116) (pc' := 124) rfl (hb hby at_116) rfl ((if0 _ _).trans (feq (by decide : ¬ ((2 : Int32) = (0 : Int32)))).2) (by decide) (by decide) ?_
        show Steps p.tables e below (s₁.setTop (mkF m 124 #[.val (.int p0_0), .val (.int p0_1), .val (.int p0_2), .val (.int p0_3), .val (.int p0_4), .val (.int p0_5), .val (.int (2 : Int32)), .val (.int (2 : Int32)), .unset, .unset, .unset, .unset, .unset] [])) _
        refine XS.iload X0.here hx rfl (hb hby at_124) rfl ?_
        refine XS.iconst X0.here hx rfl (hb hby at_126) ?_
        refine XS.icmpYes X0.here hx rfl (pc0 := 127) (pc' := 135) rfl (hb hby at_127) rfl (feq (by decide : ¬ ((2 : Int32) = (1 : Int32)))).2 (by decide) (by decide) ?_
        refine st562 _ ?_
        refine XS.astore X562.here hx rfl (hb hby at_137) rfl rfl (l' := #[.val (.int p0_0), .val (.int p0_1), .val (.int p0_2), .val (.int p0_3), .val (.int p0_4), .val (.int p0_5), .val (.int (2 : Int32)), .val (.int (2 : Int32)), .unset, .val (.ref b562), .unset, .unset, .unset]) rfl ?_
        refine XS.aload X562.here hx rfl (hb hby at_139) rfl rfl ?_
        refine st565.trans ?_
        refine XS.istore X565.here hx rfl (hb hby at_144) rfl (l' := #[.val (.int p0_0), .val (.int p0_1), .val (.int p0_2), .val (.int p0_3), .val (.int p0_4), .val (.int p0_5), .val (.int (2 : Int32)), .val (.int (2 : Int32)), .unset, .val (.ref b562), .val (.int (4 : Int32)), .unset, .unset]) rfl ?_
        refine XS.iload X565.here hx rfl (hb hby at_146) rfl ?_
        refine XS.iconst X565.here hx rfl (hb hby at_148) ?_
        refine XS.icmpYes X565.here hx rfl (pc0 := 149) (pc' := 158) rfl (hb hby at_149) rfl (feq (by decide : ¬ ((2 : Int32) = (4 : Int32)))).2 (by decide) (by decide) ?_
        refine XS.iload X565.here hx rfl (hb hby at_158) rfl ?_
        refine XS.iconst X565.here hx rfl (hb hby at_160) ?_
        refine XS.icmpNo X565.here hx rfl (hb hby at_161) rfl (teq (by decide : (2 : Int32) = (2 : Int32))).2 ?_
        refine XS.iload X565.here hx rfl (hb hby at_164) rfl ?_
        refine XS.iconst X565.here hx rfl (hb hby at_166) ?_
        refine XS.isub X565.here hx rfl (hb hby at_167) rfl ?_
        refine XS.goto X565.here hx rfl (pc0 := 168) (pc' := 186) rfl (hb hby at_168) (by decide) (by decide) ?_
        show Steps p.tables e below (T565.setTop (mkF m 186 #[.val (.int p0_0), .val (.int p0_1), .val (.int p0_2), .val (.int p0_3), .val (.int p0_4), .val (.int p0_5), .val (.int (2 : Int32)), .val (.int (2 : Int32)), .unset, .val (.ref b562), .val (.int (4 : Int32)), .unset, .unset] [(.int (3 : Int32))])) _
        refine XS.istore X565.here hx rfl (hb hby at_186) rfl (l' := #[.val (.int p0_0), .val (.int p0_1), .val (.int p0_2), .val (.int p0_3), .val (.int p0_4), .val (.int p0_5), .val (.int (2 : Int32)), .val (.int (2 : Int32)), .unset, .val (.ref b562), .val (.int (4 : Int32)), .val (.int (3 : Int32)), .unset]) rfl ?_
        refine XS.iload X565.here hx rfl (hb hby at_188) rfl ?_
        refine st566 _ ?_
        refine XS.astore X566.here hx rfl (hb hby at_192) rfl rfl (l' := #[.val (.int p0_0), .val (.int p0_1), .val (.int p0_2), .val (.int p0_3), .val (.int p0_4), .val (.int p0_5), .val (.int (2 : Int32)), .val (.int (2 : Int32)), .unset, .val (.ref b562), .val (.int (4 : Int32)), .val (.int (3 : Int32)), .val (.ref b566)]) rfl ?_
        refine XS.aload X566.here hx rfl (hb hby at_194) rfl rfl ?_
        refine XS.aload X566.here hx rfl (hb hby at_196) rfl rfl ?_
        refine XS.iload X566.here hx rfl (hb hby at_198) rfl ?_
        refine XS.sipush X566.here hx rfl (hb hby at_200) ?_
        refine XS.iand X566.here hx rfl (hb hby at_203) rfl ?_
        refine XS.i2c X566.here hx rfl (hb hby at_204) rfl ?_
        exact k
      rw [show (p0_4 &&& (255 : Int32)).toUInt32.toUInt16.toUInt32.toInt32 = (p0_4 &&& (255 : Int32)) from own_i2c _ (own_m255 _)] at k576
      have Vr577 : Arv Z h566 b566 k566 .char (3 : Int32) (List.map Value.int (List.replicate 3 (0 : Int32))) (.int (0 : Int32)) := V566
      have Vl578 : Arv Z h566 d562 kb562 .byte (Int32.ofNat own_LC.length) (List.map Value.int (List.map (fun c => c.toInt8.toInt32) own_LC)) (.int (0 : Int32)) := own_lsC ▸ F575
      obtain ⟨_, _, ⟨T579, L579, k579, n579⟩, -, X579, ⟨Lc579, hQ579, l579, y579, z579⟩, st579⟩ := Jvm.LawKit.callS X566 hx (y := (⟨"com/example/leanweave/leanweave/QosMeasureOfColumnPinLaw", "fill", "([CLjava/lang/String;C)V"⟩ : MethodName)) hown (mvT hZ (wd hw 23 rfl)) (mvT hZ (wd hw 24 rfl)) (mvT hZ (wd hw 25 rfl)) (mvT hZ (wd hw 26 rfl)) (by decide) (backOf (W := 0) (rm4 l Z a0 hw [] b566 b562 (p0_4 &&& (255 : Int32)) k566 (3 : Int32) (List.replicate 3 (0 : Int32)) d562 kb562 own_LC cs fm h566 n0 Zs566 Vr577 F572 F574 F573 Vl578 F570 F571 (by decide : (List.replicate 3 (0 : Int32)).length = (3 : Int32).toNatClampNeg) (by decide : ∀ c ∈ (List.replicate 3 (0 : Int32)), ¬ c < 0 ∧ ¬ (255 : Int32) < c) (by decide : ∀ c ∈ own_LC, ¬ c < 0 ∧ ¬ (255 : Int32) < c) (by decide : own_LC.length ≤ 4000) hcs hfm (own_m255 _).1 (own_m255 _).2 ne567 ne568 gg566) hZ (wd hw 26 rfl) (wd hw 25 rfl) (by decide) (by decide)) (g := (mkF m 205 #[.val (.int p0_0), .val (.int p0_1), .val (.int p0_2), .val (.int p0_3), .val (.int p0_4), .val (.int p0_5), .val (.int (2 : Int32)), .val (.int (2 : Int32)), .unset, .val (.ref b562), .val (.int (4 : Int32)), .val (.int (3 : Int32)), .val (.ref b566)] [(.int (p0_4 &&& (255 : Int32))), (.ref b562), (.ref b566)])) rfl (by rw [hml]; rfl) (argsL := [(.ref b566), (.ref b562), (.int (p0_4 &&& (255 : Int32)))]) (rest := []) (lenOf pd_12 rfl) rfl (by show 2 * 0 + _ ≤ _; exact Nat.le_of_eq rfl) (hb hby at_205) (fun _ _ => ⟨rfl, e566, (by decide : 3 + 0 ≤ _), (by decide : 23 + 0 ≤ _)⟩)
      dsimp only [Pt.U, Pt.locs, Pt.cells, Pt.slots] at X579 l579 y579 z579 st579 hQ579
      rw [l579, y579, z579] at X579
      obtain ⟨cb_579, rfl, N579q, Kc579, G579_0, P579_0, P579_1⟩ := hQ579
      have Zs579 : n0 ≤ T579.heap.size := Nat.le_trans Zs566 Kc579.1
      have K579 : Keep h0 T579.heap [] := K566.trans Kc579 (allS (Or.inr sz566) all0)
      have sf580 := Safe.keep Kc579 (sfS (Safe.arv hZ.alike Vr577 (by decide)) sf0) hCR.1 sf569
      have hCR := hCR.trans (CHr.keep Kc579 (sfS (Safe.arv hZ.alike Vr577 (by decide)) sf0) hCR.1)
      have hk := Nat.le_trans hk Kc579.1
      have F581 := own_stakeep F570 Kc579 (allS (own_nsV Vr577) all0)
      have F582 := own_stakeep F571 Kc579 (allS (own_nsV Vr577) all0)
      have F583 := F572.keep Kc579
      have F584 := F573.keep Kc579 (ninS ne567 nin0)
      have F585 := F574.keep Kc579 (ninS ne567 nin0)
      have F586 := Vl578.keep Kc579 (ninS ne568 nin0)
      have N579 := Fr.app N565 N579q
      obtain ⟨b587, g587⟩ : ∃ z, z = T579.heap.size := ⟨_, rfl⟩
      obtain ⟨T587, h587, X587, e587, E587, A587, D587, -, st587⟩ := newO X579 hx hZ hown (wd hw 52 rfl) (wd hw 3 rfl) (wd hw 2 rfl) rfl (g := (mkF m 231 #[.val (.int p0_0), .val (.int p0_1), .val (.int p0_2), .val (.int p0_3), .val (.int p0_4), .val (.int p0_5), .val (.int (2 : Int32)), .val (.int (2 : Int32)), .unset, .val (.ref b562), .val (.int (4 : Int32)), .val (.int (3 : Int32)), .val (.ref b566)] [])) rfl (hb hby at_231) (by decide) (by decide)
      rw [← g587] at A587 D587 st587
      have ne588 : b562 ≠ b587 := Nat.ne_of_lt (Nat.lt_of_lt_of_le F583.lt (Nat.le_of_eq g587.symm))
      have ne589 : d562 ≠ b587 := Nat.ne_of_lt (Nat.lt_of_lt_of_le F586.lt (Nat.le_of_eq g587.symm))
      have ne590 : b566 ≠ b587 := Nat.ne_of_lt (Nat.lt_of_lt_of_le G579_0.lt (Nat.le_of_eq g587.symm))
      have sfn587 := Safe.new (Z := Z) (EL := consts_1) (vm := T562.vm) (Nat.le_of_eq g587.symm)
      have sf591 := Safe.ext E587 hCR.1 sf580
      have sf592 := Safe.ext E587 hCR.1 sfn587
      have hCR := hCR.trans (CHr.ext E587 hCR.1)
      have hk := Nat.le_trans hk E587.1
      have gg587 : n0 ≤ b587 := Nat.le_trans Zs579 (Nat.le_of_eq g587.symm)
      have sz587 : h0.size ≤ b587 := Nat.le_trans K579.1 (Nat.le_of_eq g587.symm)
      have Zs587 : n0 ≤ h587.size := Nat.le_trans Zs579 E587.1
      have K587 : Keep h0 h587 [] := K579.ext E587
      have F593 := F581.ext E587
      have F594 := F582.ext E587
      have F595 := F583.ext E587
      have F596 := F584.ext E587
      have F597 := F585.ext E587
      have F598 := F586.ext E587
      have F599 := G579_0.ext E587
      have F600 : Fld Z h587 b587 "java/lang/String" "value" "[B" .null := D587 (Or.inr (wd hw 5 rfl)) (ty := (.array .byte)) (by decide)
      have F601 : Fld Z h587 b587 "java/lang/String" "coder" "B" (.int (0 : Int32)) := D587 (Or.inr (wd hw 6 rfl)) (ty := .byte) (by decide)
      obtain ⟨_, _, ⟨T602, L602, k602, n602⟩, -, X602, ⟨Lc602, hQ602, l602, y602, z602⟩, st602⟩ := X587.specialBack hx (y := (⟨"java/lang/String", "<init>", "([C)V"⟩ : MethodName)) rfl hown (mvT hZ (wd hw 53 rfl)) (mvT hZ (wd hw 54 rfl)) (mvT hZ (wd hw 55 rfl)) (by decide) (StrChars.Road.backV (W := 1) hZ (fun d hd => hw d (own_sub_backV d hd)) (kI := 4) (wd hw 3 rfl) (cs := cb_579) (bs := cb_579.map (fun c => c.toInt8.toInt32)) (n := 3) gg587 Zs587 A587 F600 F601 F599 F593 hcs (P579_0.trans (by decide)) rfl (by decide) (by decide) P579_1 rfl (by decide) (by decide)) (g := (mkF m 237 #[.val (.int p0_0), .val (.int p0_1), .val (.int p0_2), .val (.int p0_3), .val (.int p0_4), .val (.int p0_5), .val (.int (2 : Int32)), .val (.int (2 : Int32)), .unset, .val (.ref b562), .val (.int (4 : Int32)), .val (.int (3 : Int32)), .val (.ref b566)] [(.ref b566), (.ref b587), (.ref b587)])) rfl (by rw [hml]; rfl) (Steps.refl _) (a := b587) (argsL := [(.ref b566)]) (rest := [(.ref b587)]) (lenOf pd_13 rfl) rfl (by show 2 * 0 + _ ≤ _; exact Nat.le_of_eq rfl) (hb hby at_237) (fun _ _ => ⟨rfl, e587, (by decide : 4 + 1 ≤ _), (by decide : 27 + 3 ≤ _)⟩)
      dsimp only [Pt.U, Pt.locs, Pt.cells, Pt.slots] at X602 l602 y602 z602 st602 hQ602
      rw [l602, y602, z602] at X602
      obtain ⟨rfl, N602q, Kc602, G602_0, G602_1, t602, kb602, ggt602, szt602, nex602, G602_2, G602_3⟩ := hQ602
      have szz602 : h0.size ≤ t602 := Nat.le_trans K587.1 szt602
      have Zs602 : n0 ≤ T602.heap.size := Nat.le_trans Zs587 Kc602.1
      have K602 : Keep h0 T602.heap [] := K587.trans Kc602 (allS (Or.inr sz587) all0)
      have sf603 := Safe.keep Kc602 (sfS sf592 sf0) hCR.1 sf591
      have sf604 := Safe.keep Kc602 (sfS sf592 sf0) hCR.1 sf592
      have hCR := hCR.trans (CHr.keep Kc602 (sfS sf592 sf0) hCR.1)
      have hk := Nat.le_trans hk Kc602.1
      have F605 := own_stakeep F593 Kc602 (allS (own_nsE A587) all0)
      have F606 := own_stakeep F594 Kc602 (allS (own_nsE A587) all0)
      have F607 := F595.keep Kc602
      have F608 := F596.keep Kc602 (ninS ne588 nin0)
      have F609 := F597.keep Kc602 (ninS ne588 nin0)
      have F610 := F598.keep Kc602 (ninS ne589 nin0)
      have F611 := F599.keep Kc602 (ninS ne590 nin0)
      have N602 := Fr.app N579 N602q
      have k612 : ∀ t, Steps p.tables e below (T602.setTop (mkF m 242 #[.val (.int p0_0), .val (.int p0_1), .val (.int p0_2), .val (.int p0_3), .val (.int p0_4), .val (.int p0_5), .val (.int (2 : Int32)), .val (.int (2 : Int32)), .val (.ref b587), .val (.ref b562), .val (.int (4 : Int32)), .val (.int (3 : Int32)), .val (.ref b566)] [])) t → Steps p.tables e below (s₁.setTop (entryFrame m #[(.int p0_0), (.int p0_1), (.int p0_2), (.int p0_3), (.int p0_4), (.int p0_5)] maxLocals)) t := by
        intro t k
        refine k576 t ?_
        refine st579 _ ?_
        refine XS.iload X579.here hx rfl (hb hby at_208) rfl ?_
        refine XS.iconst X579.here hx rfl (hb hby at_210) ?_
        refine XS.icmpYes X579.here hx rfl (pc0 := 211) (pc' := 231) rfl (hb hby at_211) rfl (feq (by decide : ¬ ((2 : Int32) = (1 : Int32)))).2 (by decide) (by decide) ?_
        refine st587 _ ?_
        refine XS.dup X587.here hx rfl (hb hby at_234) rfl rfl ?_
        refine XS.aload X587.here hx rfl (hb hby at_235) rfl rfl ?_
        refine st602.trans ?_
        show Steps p.tables e below (T602.setTop (mkF m 240 #[.val (.int p0_0), .val (.int p0_1), .val (.int p0_2), .val (.int p0_3), .val (.int p0_4), .val (.int p0_5), .val (.int (2 : Int32)), .val (.int (2 : Int32)), .unset, .val (.ref b562), .val (.int (4 : Int32)), .val (.int (3 : Int32)), .val (.ref b566)] [(.ref b587)])) _
        refine XS.astore X602.here hx rfl (hb hby at_240) rfl rfl (l' := #[.val (.int p0_0), .val (.int p0_1), .val (.int p0_2), .val (.int p0_3), .val (.int p0_4), .val (.int p0_5), .val (.int (2 : Int32)), .val (.int (2 : Int32)), .val (.ref b587), .val (.ref b562), .val (.int (4 : Int32)), .val (.int (3 : Int32)), .val (.ref b566)]) rfl ?_
        exact k
      obtain ⟨t_, o_, ss_, s2_, s3_, v_, L_, hv_, hq_, hf_⟩ := sgs1 hw hEL wS h0 p0_0 p0_1 p0_2 p0_3 p0_4 p0_5 (2 : Int32) (2 : Int32) b587 (.val (.int (3 : Int32))) (.val (.ref b566)) b562 (.val (.int (4 : Int32))) u_EMPTY u__VALUES cl_u__VALUES u_RESPONSE_TIME u_THROUGHPUT u_COST u_RESPONSE_TIME_column u_RESPONSE_TIME_column_value cl_u_RESPONSE_TIME_column_value u_THROUGHPUT_column u_THROUGHPUT_column_value cl_u_THROUGHPUT_column_value u_COST_column u_COST_column_value cl_u_COST_column_value cs t602 kb602 (3 : Int32) cb_579 T602.heap n0 Zs602 S_EMPTY E_u_EMPTY F_u_EMPTY_value S__VALUES E_u__VALUES S_RESPONSE_TIME E_u_RESPONSE_TIME S_THROUGHPUT E_u_THROUGHPUT S_COST E_u_COST F_u_RESPONSE_TIME_column E_u_RESPONSE_TIME_column F_u_RESPONSE_TIME_column_coder F_u_RESPONSE_TIME_column_value F_u_THROUGHPUT_column E_u_THROUGHPUT_column F_u_THROUGHPUT_column_coder F_u_THROUGHPUT_column_value F_u_COST_column E_u_COST_column F_u_COST_column_coder F_u_COST_column_value V_u__VALUES V_u_RESPONSE_TIME_column_value V_u_THROUGHPUT_column_value V_u_COST_column_value K602 F605 G602_0 G602_2 G602_1 G602_3 hcs (Or.inr ⟨_, rfl, rfl⟩) (by rw [P579_0]; rfl) P579_1 (by rw [P579_0]; decide) (X602.more (by decide) (by decide)) hx hZ hby hml hown Bd.returns (by first | assumption | exact BodyLoose.notSynchronized (by assumption) | exact Body.notSynchronized (by assumption)) rfl N602 hh hS hk hCR
      exact ⟨t_, o_, k612 _ ss_, s2_, s3_, v_, L_, hv_, hq_, hf_⟩
    · skip
      obtain ⟨b613, T613, h613, k613, d613, kb613, X613, e613, E613, hS, hk, hZ, hown, Ex613, Fc613, Fv613, V613, lta613, ltb613, hC613, hL613, hsf613, st613⟩ := ldcCH X0 hx hZ hown (wd hw 123 rfl) wS e0 hS hk hEL (List.mem_of_getElem? (i := 2) rfl) hCR.1 (vs := [(.int (99 : Int32)), (.int (111 : Int32)), (.int (115 : Int32)), (.int (116 : Int32))]) (z := (4 : Int32)) ⟨by decide, rfl⟩ (by decide) rfl (g := (mkF m 135 #[.val (.int p0_0), .val (.int p0_1), .val (.int p0_2), .val (.int p0_3), .val (.int p0_4), .val (.int p0_5), .val (.int (2 : Int32)), .val (.int (3 : Int32)), .unset, .unset, .unset, .unset, .unset] [])) rfl (hb hby at_135) (n := 16) (by decide) (by decide) (by decide) (by decide)
      have hCR := hCR.trans hC613
      have Zs613 : n0 ≤ h613.size := Nat.le_trans Z0 E613.1
      have K613 : Keep h0 h613 [] := (Keep.refl h0 []).ext E613
      have F614 := Sc.ext E613
      have F615 := Sf.ext E613
      obtain ⟨cq616, kq616, q616a, q616b, q616c⟩ := isOf hZ e613 Ex613
      obtain ⟨_, _, ⟨T616, L616, k616, n616⟩, -, X616, ⟨Lc616, hQ616, l616, y616, z616⟩, st616⟩ := X613.virtualBack hx (y := (⟨"java/lang/String", "length", "()I"⟩ : MethodName)) (z := (⟨"java/lang/String", "length", "()I"⟩ : MethodName)) hown (mvT hZ (wd hw 9 rfl)) (mvT hZ (wd hw 10 rfl)) (notFace_of_selects (args := #[]) (mvT hZ (wd hw 12 rfl))) (mvT hZ (wd hw 12 rfl)) (mvT hZ (wd hw 11 rfl)) (by decide) (StrChars.Road.lenW (W := 0) hZ (fun d hd => hw d (own_sub_lenW d hd)) (kI := 4) (wd hw 3 rfl) (cs := own_LC) Ex613 Fv613 Fc613 V613 own_codC own_bdC F614 hcs (by decide) (by decide) (by decide)) q616a q616c (g := (mkF m 141 #[.val (.int p0_0), .val (.int p0_1), .val (.int p0_2), .val (.int p0_3), .val (.int p0_4), .val (.int p0_5), .val (.int (2 : Int32)), .val (.int (3 : Int32)), .unset, .val (.ref b613), .unset, .unset, .unset] [(.ref b613)])) rfl (by rw [hml]; rfl) (Steps.refl _) (argsL := []) (rest := []) (lenOf pd_1 rfl) rfl (by show 2 * 0 + _ ≤ _; exact Nat.le_of_eq rfl) (hb hby at_141) (fun _ _ => ⟨rfl, e613, (by decide : 2 + 0 ≤ _), (by decide : 20 + 0 ≤ _)⟩)
      dsimp only [Pt.U, Pt.locs, Pt.cells, Pt.slots] at X616 l616 y616 z616 st616 hQ616
      rw [l616, y616, z616] at X616
      obtain ⟨rfl, rfl, eh616⟩ := hQ616
      have N616 := Fr.app N0 (Fr.nil n0)
      obtain ⟨b617, g617⟩ : ∃ z, z = h613.size := ⟨_, rfl⟩
      obtain ⟨T617, h617, k617, X617, e617, E617, A617, st617⟩ := newP X616 hx hZ (wd hw 22 rfl) eh616 (g := (mkF m 190 #[.val (.int p0_0), .val (.int p0_1), .val (.int p0_2), .val (.int p0_3), .val (.int p0_4), .val (.int p0_5), .val (.int (2 : Int32)), .val (.int (3 : Int32)), .unset, .val (.ref b613), .val (.int (4 : Int32)), .val (.int (5 : Int32)), .unset] [(.int (5 : Int32))])) rfl (hb hby at_190) rfl (by decide) (cap := 5) (by decide) (by decide) (by decide) (by decide)
      rw [← g617] at A617 st617
      have ne618 : b613 ≠ b617 := Nat.ne_of_lt (Nat.lt_of_lt_of_le Ex613.lt (Nat.le_of_eq g617.symm))
      have ne619 : d613 ≠ b617 := Nat.ne_of_lt (Nat.lt_of_lt_of_le V613.lt (Nat.le_of_eq g617.symm))
      have sfn617 := Safe.new (Z := Z) (EL := consts_1) (vm := T613.vm) (Nat.le_of_eq g617.symm)
      have sf620 := Safe.ext E617 hCR.1 sfn617
      have hCR := hCR.trans (CHr.ext E617 hCR.1)
      have hk := Nat.le_trans hk E617.1
      have gg617 : n0 ≤ b617 := Nat.le_trans Zs613 (Nat.le_of_eq g617.symm)
      have sz617 : h0.size ≤ b617 := Nat.le_trans K613.1 (Nat.le_of_eq g617.symm)
      have Zs617 : n0 ≤ h617.size := Nat.le_trans Zs613 E617.1
      have K617 : Keep h0 h617 [] := K613.ext E617
      have F621 := F614.ext E617
      have F622 := F615.ext E617
      have F623 := Ex613.ext E617
      have F624 := Fc613.ext E617
      have F625 := Fv613.ext E617
      have F626 := V613.ext E617
      have V617 : Arv Z h617 b617 k617 .char (5 : Int32) [(.int (0 : Int32)), (.int (0 : Int32)), (.int (0 : Int32)), (.int (0 : Int32)), (.int (0 : Int32))] (.int (0 : Int32)) := (Arv.new A617 (by decide)).pad (pad_rep [] (.int (0 : Int32)) 5)
      have k627 : ∀ t, Steps p.tables e below (T617.setTop (mkF m 205 #[.val (.int p0_0), .val (.int p0_1), .val (.int p0_2), .val (.int p0_3), .val (.int p0_4), .val (.int p0_5), .val (.int (2 : Int32)), .val (.int (3 : Int32)), .unset, .val (.ref b613), .val (.int (4 : Int32)), .val (.int (5 : Int32)), .val (.ref b617)] [(.int (p0_4 &&& (255 : Int32)).toUInt32.toUInt16.toUInt32.toInt32), (.ref b613), (.ref b617)])) t → Steps p.tables e below (s₁.setTop (entryFrame m #[(.int p0_0), (.int p0_1), (.int p0_2), (.int p0_3), (.int p0_4), (.int p0_5)] maxLocals)) t := by
        intro t k
        refine k1 t ?_
        refine XS.iload X0.here hx rfl (hb hby at_16) rfl ?_
        refine XS.iconst X0.here hx rfl (hb hby at_18) ?_
        refine XS.icmpYes X0.here hx rfl (pc0 := 19) (pc' := 114) rfl (hb hby at_19) rfl (feq (by decide : ¬ ((2 : Int32) = (3 : Int32)))).2 (by decide) (by decide) ?_
        refine XS.iload X0.here hx rfl (hb hby at_114) rfl ?_
        refine XS.ifYes X0.here hx rfl (pc0 := 116) (pc' := 124) rfl (hb hby at_116) rfl ((if0 _ _).trans (feq (by decide : ¬ ((2 : Int32) = (0 : Int32)))).2) (by decide) (by decide) ?_
        show Steps p.tables e below (s₁.setTop (mkF m 124 #[.val (.int p0_0), .val (.int p0_1), .val (.int p0_2), .val (.int p0_3), .val (.int p0_4), .val (.int p0_5), .val (.int (2 : Int32)), .val (.int (3 : Int32)), .unset, .unset, .unset, .unset, .unset] [])) _
        refine XS.iload X0.here hx rfl (hb hby at_124) rfl ?_
        refine XS.iconst X0.here hx rfl (hb hby at_126) ?_
        refine XS.icmpYes X0.here hx rfl (pc0 := 127) (pc' := 135) rfl (hb hby at_127) rfl (feq (by decide : ¬ ((2 : Int32) = (1 : Int32)))).2 (by decide) (by decide) ?_
        refine st613 _ ?_
        refine XS.astore X613.here hx rfl (hb hby at_137) rfl rfl (l' := #[.val (.int p0_0), .val (.int p0_1), .val (.int p0_2), .val (.int p0_3), .val (.int p0_4), .val (.int p0_5), .val (.int (2 : Int32)), .val (.int (3 : Int32)), .unset, .val (.ref b613), .unset, .unset, .unset]) rfl ?_
        refine XS.aload X613.here hx rfl (hb hby at_139) rfl rfl ?_
        refine st616.trans ?_
        refine XS.istore X616.here hx rfl (hb hby at_144) rfl (l' := #[.val (.int p0_0), .val (.int p0_1), .val (.int p0_2), .val (.int p0_3), .val (.int p0_4), .val (.int p0_5), .val (.int (2 : Int32)), .val (.int (3 : Int32)), .unset, .val (.ref b613), .val (.int (4 : Int32)), .unset, .unset]) rfl ?_
        refine XS.iload X616.here hx rfl (hb hby at_146) rfl ?_
        refine XS.iconst X616.here hx rfl (hb hby at_148) ?_
        refine XS.icmpYes X616.here hx rfl (pc0 := 149) (pc' := 158) rfl (hb hby at_149) rfl (feq (by decide : ¬ ((3 : Int32) = (4 : Int32)))).2 (by decide) (by decide) ?_
        refine XS.iload X616.here hx rfl (hb hby at_158) rfl ?_
        refine XS.iconst X616.here hx rfl (hb hby at_160) ?_
        refine XS.icmpYes X616.here hx rfl (pc0 := 161) (pc' := 171) rfl (hb hby at_161) rfl (feq (by decide : ¬ ((3 : Int32) = (2 : Int32)))).2 (by decide) (by decide) ?_
        refine XS.iload X616.here hx rfl (hb hby at_171) rfl ?_
        refine XS.iconst X616.here hx rfl (hb hby at_173) ?_
        refine XS.icmpNo X616.here hx rfl (hb hby at_174) rfl (teq (by decide : (3 : Int32) = (3 : Int32))).2 ?_
        refine XS.iload X616.here hx rfl (hb hby at_177) rfl ?_
        show Steps p.tables e below (T616.setTop (mkF m 179 #[.val (.int p0_0), .val (.int p0_1), .val (.int p0_2), .val (.int p0_3), .val (.int p0_4), .val (.int p0_5), .val (.int (2 : Int32)), .val (.int (3 : Int32)), .unset, .val (.ref b613), .val (.int (4 : Int32)), .unset, .unset] [(.int (4 : Int32))])) _
        refine XS.iconst X616.here hx rfl (hb hby at_179) ?_
        refine XS.iadd X616.here hx rfl (hb hby at_180) rfl ?_
        refine XS.goto X616.here hx rfl (pc0 := 181) (pc' := 186) rfl (hb hby at_181) (by decide) (by decide) ?_
        refine XS.istore X616.here hx rfl (hb hby at_186) rfl (l' := #[.val (.int p0_0), .val (.int p0_1), .val (.int p0_2), .val (.int p0_3), .val (.int p0_4), .val (.int p0_5), .val (.int (2 : Int32)), .val (.int (3 : Int32)), .unset, .val (.ref b613), .val (.int (4 : Int32)), .val (.int (5 : Int32)), .unset]) rfl ?_
        refine XS.iload X616.here hx rfl (hb hby at_188) rfl ?_
        refine st617 _ ?_
        refine XS.astore X617.here hx rfl (hb hby at_192) rfl rfl (l' := #[.val (.int p0_0), .val (.int p0_1), .val (.int p0_2), .val (.int p0_3), .val (.int p0_4), .val (.int p0_5), .val (.int (2 : Int32)), .val (.int (3 : Int32)), .unset, .val (.ref b613), .val (.int (4 : Int32)), .val (.int (5 : Int32)), .val (.ref b617)]) rfl ?_
        refine XS.aload X617.here hx rfl (hb hby at_194) rfl rfl ?_
        refine XS.aload X617.here hx rfl (hb hby at_196) rfl rfl ?_
        refine XS.iload X617.here hx rfl (hb hby at_198) rfl ?_
        refine XS.sipush X617.here hx rfl (hb hby at_200) ?_
        refine XS.iand X617.here hx rfl (hb hby at_203) rfl ?_
        refine XS.i2c X617.here hx rfl (hb hby at_204) rfl ?_
        exact k
      rw [show (p0_4 &&& (255 : Int32)).toUInt32.toUInt16.toUInt32.toInt32 = (p0_4 &&& (255 : Int32)) from own_i2c _ (own_m255 _)] at k627
      have Vr628 : Arv Z h617 b617 k617 .char (5 : Int32) (List.map Value.int (List.replicate 5 (0 : Int32))) (.int (0 : Int32)) := V617
      have Vl629 : Arv Z h617 d613 kb613 .byte (Int32.ofNat own_LC.length) (List.map Value.int (List.map (fun c => c.toInt8.toInt32) own_LC)) (.int (0 : Int32)) := own_lsC ▸ F626
      obtain ⟨_, _, ⟨T630, L630, k630, n630⟩, -, X630, ⟨Lc630, hQ630, l630, y630, z630⟩, st630⟩ := Jvm.LawKit.callS X617 hx (y := (⟨"com/example/leanweave/leanweave/QosMeasureOfColumnPinLaw", "fill", "([CLjava/lang/String;C)V"⟩ : MethodName)) hown (mvT hZ (wd hw 23 rfl)) (mvT hZ (wd hw 24 rfl)) (mvT hZ (wd hw 25 rfl)) (mvT hZ (wd hw 26 rfl)) (by decide) (backOf (W := 0) (rm4 l Z a0 hw [] b617 b613 (p0_4 &&& (255 : Int32)) k617 (5 : Int32) (List.replicate 5 (0 : Int32)) d613 kb613 own_LC cs fm h617 n0 Zs617 Vr628 F623 F625 F624 Vl629 F621 F622 (by decide : (List.replicate 5 (0 : Int32)).length = (5 : Int32).toNatClampNeg) (by decide : ∀ c ∈ (List.replicate 5 (0 : Int32)), ¬ c < 0 ∧ ¬ (255 : Int32) < c) (by decide : ∀ c ∈ own_LC, ¬ c < 0 ∧ ¬ (255 : Int32) < c) (by decide : own_LC.length ≤ 4000) hcs hfm (own_m255 _).1 (own_m255 _).2 ne618 ne619 gg617) hZ (wd hw 26 rfl) (wd hw 25 rfl) (by decide) (by decide)) (g := (mkF m 205 #[.val (.int p0_0), .val (.int p0_1), .val (.int p0_2), .val (.int p0_3), .val (.int p0_4), .val (.int p0_5), .val (.int (2 : Int32)), .val (.int (3 : Int32)), .unset, .val (.ref b613), .val (.int (4 : Int32)), .val (.int (5 : Int32)), .val (.ref b617)] [(.int (p0_4 &&& (255 : Int32))), (.ref b613), (.ref b617)])) rfl (by rw [hml]; rfl) (argsL := [(.ref b617), (.ref b613), (.int (p0_4 &&& (255 : Int32)))]) (rest := []) (lenOf pd_12 rfl) rfl (by show 2 * 0 + _ ≤ _; exact Nat.le_of_eq rfl) (hb hby at_205) (fun _ _ => ⟨rfl, e617, (by decide : 3 + 0 ≤ _), (by decide : 25 + 0 ≤ _)⟩)
      dsimp only [Pt.U, Pt.locs, Pt.cells, Pt.slots] at X630 l630 y630 z630 st630 hQ630
      rw [l630, y630, z630] at X630
      obtain ⟨cb_630, rfl, N630q, Kc630, G630_0, P630_0, P630_1⟩ := hQ630
      have Zs630 : n0 ≤ T630.heap.size := Nat.le_trans Zs617 Kc630.1
      have K630 : Keep h0 T630.heap [] := K617.trans Kc630 (allS (Or.inr sz617) all0)
      have sf631 := Safe.keep Kc630 (sfS (Safe.arv hZ.alike Vr628 (by decide)) sf0) hCR.1 sf620
      have hCR := hCR.trans (CHr.keep Kc630 (sfS (Safe.arv hZ.alike Vr628 (by decide)) sf0) hCR.1)
      have hk := Nat.le_trans hk Kc630.1
      have F632 := own_stakeep F621 Kc630 (allS (own_nsV Vr628) all0)
      have F633 := own_stakeep F622 Kc630 (allS (own_nsV Vr628) all0)
      have F634 := F623.keep Kc630
      have F635 := F624.keep Kc630 (ninS ne618 nin0)
      have F636 := F625.keep Kc630 (ninS ne618 nin0)
      have F637 := Vl629.keep Kc630 (ninS ne619 nin0)
      have N630 := Fr.app N616 N630q
      obtain ⟨b638, g638⟩ : ∃ z, z = T630.heap.size := ⟨_, rfl⟩
      obtain ⟨T638, h638, X638, e638, E638, A638, D638, -, st638⟩ := newO X630 hx hZ hown (wd hw 52 rfl) (wd hw 3 rfl) (wd hw 2 rfl) rfl (g := (mkF m 231 #[.val (.int p0_0), .val (.int p0_1), .val (.int p0_2), .val (.int p0_3), .val (.int p0_4), .val (.int p0_5), .val (.int (2 : Int32)), .val (.int (3 : Int32)), .unset, .val (.ref b613), .val (.int (4 : Int32)), .val (.int (5 : Int32)), .val (.ref b617)] [])) rfl (hb hby at_231) (by decide) (by decide)
      rw [← g638] at A638 D638 st638
      have ne639 : b613 ≠ b638 := Nat.ne_of_lt (Nat.lt_of_lt_of_le F634.lt (Nat.le_of_eq g638.symm))
      have ne640 : d613 ≠ b638 := Nat.ne_of_lt (Nat.lt_of_lt_of_le F637.lt (Nat.le_of_eq g638.symm))
      have ne641 : b617 ≠ b638 := Nat.ne_of_lt (Nat.lt_of_lt_of_le G630_0.lt (Nat.le_of_eq g638.symm))
      have sfn638 := Safe.new (Z := Z) (EL := consts_1) (vm := T613.vm) (Nat.le_of_eq g638.symm)
      have sf642 := Safe.ext E638 hCR.1 sf631
      have sf643 := Safe.ext E638 hCR.1 sfn638
      have hCR := hCR.trans (CHr.ext E638 hCR.1)
      have hk := Nat.le_trans hk E638.1
      have gg638 : n0 ≤ b638 := Nat.le_trans Zs630 (Nat.le_of_eq g638.symm)
      have sz638 : h0.size ≤ b638 := Nat.le_trans K630.1 (Nat.le_of_eq g638.symm)
      have Zs638 : n0 ≤ h638.size := Nat.le_trans Zs630 E638.1
      have K638 : Keep h0 h638 [] := K630.ext E638
      have F644 := F632.ext E638
      have F645 := F633.ext E638
      have F646 := F634.ext E638
      have F647 := F635.ext E638
      have F648 := F636.ext E638
      have F649 := F637.ext E638
      have F650 := G630_0.ext E638
      have F651 : Fld Z h638 b638 "java/lang/String" "value" "[B" .null := D638 (Or.inr (wd hw 5 rfl)) (ty := (.array .byte)) (by decide)
      have F652 : Fld Z h638 b638 "java/lang/String" "coder" "B" (.int (0 : Int32)) := D638 (Or.inr (wd hw 6 rfl)) (ty := .byte) (by decide)
      obtain ⟨_, _, ⟨T653, L653, k653, n653⟩, -, X653, ⟨Lc653, hQ653, l653, y653, z653⟩, st653⟩ := X638.specialBack hx (y := (⟨"java/lang/String", "<init>", "([C)V"⟩ : MethodName)) rfl hown (mvT hZ (wd hw 53 rfl)) (mvT hZ (wd hw 54 rfl)) (mvT hZ (wd hw 55 rfl)) (by decide) (StrChars.Road.backV (W := 1) hZ (fun d hd => hw d (own_sub_backV d hd)) (kI := 4) (wd hw 3 rfl) (cs := cb_630) (bs := cb_630.map (fun c => c.toInt8.toInt32)) (n := 5) gg638 Zs638 A638 F651 F652 F650 F644 hcs (P630_0.trans (by decide)) rfl (by decide) (by decide) P630_1 rfl (by decide) (by decide)) (g := (mkF m 237 #[.val (.int p0_0), .val (.int p0_1), .val (.int p0_2), .val (.int p0_3), .val (.int p0_4), .val (.int p0_5), .val (.int (2 : Int32)), .val (.int (3 : Int32)), .unset, .val (.ref b613), .val (.int (4 : Int32)), .val (.int (5 : Int32)), .val (.ref b617)] [(.ref b617), (.ref b638), (.ref b638)])) rfl (by rw [hml]; rfl) (Steps.refl _) (a := b638) (argsL := [(.ref b617)]) (rest := [(.ref b638)]) (lenOf pd_13 rfl) rfl (by show 2 * 0 + _ ≤ _; exact Nat.le_of_eq rfl) (hb hby at_237) (fun _ _ => ⟨rfl, e638, (by decide : 4 + 1 ≤ _), (by decide : 29 + 5 ≤ _)⟩)
      dsimp only [Pt.U, Pt.locs, Pt.cells, Pt.slots] at X653 l653 y653 z653 st653 hQ653
      rw [l653, y653, z653] at X653
      obtain ⟨rfl, N653q, Kc653, G653_0, G653_1, t653, kb653, ggt653, szt653, nex653, G653_2, G653_3⟩ := hQ653
      have szz653 : h0.size ≤ t653 := Nat.le_trans K638.1 szt653
      have Zs653 : n0 ≤ T653.heap.size := Nat.le_trans Zs638 Kc653.1
      have K653 : Keep h0 T653.heap [] := K638.trans Kc653 (allS (Or.inr sz638) all0)
      have sf654 := Safe.keep Kc653 (sfS sf643 sf0) hCR.1 sf642
      have sf655 := Safe.keep Kc653 (sfS sf643 sf0) hCR.1 sf643
      have hCR := hCR.trans (CHr.keep Kc653 (sfS sf643 sf0) hCR.1)
      have hk := Nat.le_trans hk Kc653.1
      have F656 := own_stakeep F644 Kc653 (allS (own_nsE A638) all0)
      have F657 := own_stakeep F645 Kc653 (allS (own_nsE A638) all0)
      have F658 := F646.keep Kc653
      have F659 := F647.keep Kc653 (ninS ne639 nin0)
      have F660 := F648.keep Kc653 (ninS ne639 nin0)
      have F661 := F649.keep Kc653 (ninS ne640 nin0)
      have F662 := F650.keep Kc653 (ninS ne641 nin0)
      have N653 := Fr.app N630 N653q
      have k663 : ∀ t, Steps p.tables e below (T653.setTop (mkF m 242 #[.val (.int p0_0), .val (.int p0_1), .val (.int p0_2), .val (.int p0_3), .val (.int p0_4), .val (.int p0_5), .val (.int (2 : Int32)), .val (.int (3 : Int32)), .val (.ref b638), .val (.ref b613), .val (.int (4 : Int32)), .val (.int (5 : Int32)), .val (.ref b617)] [])) t → Steps p.tables e below (s₁.setTop (entryFrame m #[(.int p0_0), (.int p0_1), (.int p0_2), (.int p0_3), (.int p0_4), (.int p0_5)] maxLocals)) t := by
        intro t k
        refine k627 t ?_
        refine st630 _ ?_
        refine XS.iload X630.here hx rfl (hb hby at_208) rfl ?_
        refine XS.iconst X630.here hx rfl (hb hby at_210) ?_
        refine XS.icmpYes X630.here hx rfl (pc0 := 211) (pc' := 231) rfl (hb hby at_211) rfl (feq (by decide : ¬ ((3 : Int32) = (1 : Int32)))).2 (by decide) (by decide) ?_
        refine st638 _ ?_
        show Steps p.tables e below (T638.setTop (mkF m 234 #[.val (.int p0_0), .val (.int p0_1), .val (.int p0_2), .val (.int p0_3), .val (.int p0_4), .val (.int p0_5), .val (.int (2 : Int32)), .val (.int (3 : Int32)), .unset, .val (.ref b613), .val (.int (4 : Int32)), .val (.int (5 : Int32)), .val (.ref b617)] [(.ref b638)])) _
        refine XS.dup X638.here hx rfl (hb hby at_234) rfl rfl ?_
        refine XS.aload X638.here hx rfl (hb hby at_235) rfl rfl ?_
        refine st653.trans ?_
        refine XS.astore X653.here hx rfl (hb hby at_240) rfl rfl (l' := #[.val (.int p0_0), .val (.int p0_1), .val (.int p0_2), .val (.int p0_3), .val (.int p0_4), .val (.int p0_5), .val (.int (2 : Int32)), .val (.int (3 : Int32)), .val (.ref b638), .val (.ref b613), .val (.int (4 : Int32)), .val (.int (5 : Int32)), .val (.ref b617)]) rfl ?_
        exact k
      obtain ⟨t_, o_, ss_, s2_, s3_, v_, L_, hv_, hq_, hf_⟩ := sgs1 hw hEL wS h0 p0_0 p0_1 p0_2 p0_3 p0_4 p0_5 (2 : Int32) (3 : Int32) b638 (.val (.int (5 : Int32))) (.val (.ref b617)) b613 (.val (.int (4 : Int32))) u_EMPTY u__VALUES cl_u__VALUES u_RESPONSE_TIME u_THROUGHPUT u_COST u_RESPONSE_TIME_column u_RESPONSE_TIME_column_value cl_u_RESPONSE_TIME_column_value u_THROUGHPUT_column u_THROUGHPUT_column_value cl_u_THROUGHPUT_column_value u_COST_column u_COST_column_value cl_u_COST_column_value cs t653 kb653 (5 : Int32) cb_630 T653.heap n0 Zs653 S_EMPTY E_u_EMPTY F_u_EMPTY_value S__VALUES E_u__VALUES S_RESPONSE_TIME E_u_RESPONSE_TIME S_THROUGHPUT E_u_THROUGHPUT S_COST E_u_COST F_u_RESPONSE_TIME_column E_u_RESPONSE_TIME_column F_u_RESPONSE_TIME_column_coder F_u_RESPONSE_TIME_column_value F_u_THROUGHPUT_column E_u_THROUGHPUT_column F_u_THROUGHPUT_column_coder F_u_THROUGHPUT_column_value F_u_COST_column E_u_COST_column F_u_COST_column_coder F_u_COST_column_value V_u__VALUES V_u_RESPONSE_TIME_column_value V_u_THROUGHPUT_column_value V_u_COST_column_value K653 F656 G653_0 G653_2 G653_1 G653_3 hcs (Or.inr ⟨_, rfl, rfl⟩) (by rw [P630_0]; rfl) P630_1 (by rw [P630_0]; decide) (X653.more (by decide) (by decide)) hx hZ hby hml hown Bd.returns (by first | assumption | exact BodyLoose.notSynchronized (by assumption) | exact Body.notSynchronized (by assumption)) rfl N653 hh hS hk hCR
      exact ⟨t_, o_, k663 _ ss_, s2_, s3_, v_, L_, hv_, hq_, hf_⟩
    · skip
      obtain ⟨b664, T664, h664, k664, d664, kb664, X664, e664, E664, hS, hk, hZ, hown, Ex664, Fc664, Fv664, V664, lta664, ltb664, hC664, hL664, hsf664, st664⟩ := ldcCH X0 hx hZ hown (wd hw 123 rfl) wS e0 hS hk hEL (List.mem_of_getElem? (i := 2) rfl) hCR.1 (vs := [(.int (99 : Int32)), (.int (111 : Int32)), (.int (115 : Int32)), (.int (116 : Int32))]) (z := (4 : Int32)) ⟨by decide, rfl⟩ (by decide) rfl (g := (mkF m 135 #[.val (.int p0_0), .val (.int p0_1), .val (.int p0_2), .val (.int p0_3), .val (.int p0_4), .val (.int p0_5), .val (.int (2 : Int32)), .val (.int (4 : Int32)), .unset, .unset, .unset, .unset, .unset] [])) rfl (hb hby at_135) (n := 16) (by decide) (by decide) (by decide) (by decide)
      have hCR := hCR.trans hC664
      have Zs664 : n0 ≤ h664.size := Nat.le_trans Z0 E664.1
      have K664 : Keep h0 h664 [] := (Keep.refl h0 []).ext E664
      have F665 := Sc.ext E664
      have F666 := Sf.ext E664
      obtain ⟨cq667, kq667, q667a, q667b, q667c⟩ := isOf hZ e664 Ex664
      obtain ⟨_, _, ⟨T667, L667, k667, n667⟩, -, X667, ⟨Lc667, hQ667, l667, y667, z667⟩, st667⟩ := X664.virtualBack hx (y := (⟨"java/lang/String", "length", "()I"⟩ : MethodName)) (z := (⟨"java/lang/String", "length", "()I"⟩ : MethodName)) hown (mvT hZ (wd hw 9 rfl)) (mvT hZ (wd hw 10 rfl)) (notFace_of_selects (args := #[]) (mvT hZ (wd hw 12 rfl))) (mvT hZ (wd hw 12 rfl)) (mvT hZ (wd hw 11 rfl)) (by decide) (StrChars.Road.lenW (W := 0) hZ (fun d hd => hw d (own_sub_lenW d hd)) (kI := 4) (wd hw 3 rfl) (cs := own_LC) Ex664 Fv664 Fc664 V664 own_codC own_bdC F665 hcs (by decide) (by decide) (by decide)) q667a q667c (g := (mkF m 141 #[.val (.int p0_0), .val (.int p0_1), .val (.int p0_2), .val (.int p0_3), .val (.int p0_4), .val (.int p0_5), .val (.int (2 : Int32)), .val (.int (4 : Int32)), .unset, .val (.ref b664), .unset, .unset, .unset] [(.ref b664)])) rfl (by rw [hml]; rfl) (Steps.refl _) (argsL := []) (rest := []) (lenOf pd_1 rfl) rfl (by show 2 * 0 + _ ≤ _; exact Nat.le_of_eq rfl) (hb hby at_141) (fun _ _ => ⟨rfl, e664, (by decide : 2 + 0 ≤ _), (by decide : 20 + 0 ≤ _)⟩)
      dsimp only [Pt.U, Pt.locs, Pt.cells, Pt.slots] at X667 l667 y667 z667 st667 hQ667
      rw [l667, y667, z667] at X667
      obtain ⟨rfl, rfl, eh667⟩ := hQ667
      have N667 := Fr.app N0 (Fr.nil n0)
      have k668 : ∀ t, Steps p.tables e below (T667.setTop (mkF m 242 #[.val (.int p0_0), .val (.int p0_1), .val (.int p0_2), .val (.int p0_3), .val (.int p0_4), .val (.int p0_5), .val (.int (2 : Int32)), .val (.int (4 : Int32)), .val .null, .val (.ref b664), .val (.int (4 : Int32)), .unset, .unset] [])) t → Steps p.tables e below (s₁.setTop (entryFrame m #[(.int p0_0), (.int p0_1), (.int p0_2), (.int p0_3), (.int p0_4), (.int p0_5)] maxLocals)) t := by
        intro t k
        refine k1 t ?_
        refine XS.iload X0.here hx rfl (hb hby at_16) rfl ?_
        refine XS.iconst X0.here hx rfl (hb hby at_18) ?_
        refine XS.icmpYes X0.here hx rfl (pc0 := 19) (pc' := 114) rfl (hb hby at_19) rfl (feq (by decide : ¬ ((2 : Int32) = (3 : Int32)))).2 (by decide) (by decide) ?_
        refine XS.iload X0.here hx rfl (hb hby at_114) rfl ?_
        refine XS.ifYes X0.here hx rfl (pc0 := 116) (pc' := 124) rfl (hb hby at_116) rfl ((if0 _ _).trans (feq (by decide : ¬ ((2 : Int32) = (0 : Int32)))).2) (by decide) (by decide) ?_
        show Steps p.tables e below (s₁.setTop (mkF m 124 #[.val (.int p0_0), .val (.int p0_1), .val (.int p0_2), .val (.int p0_3), .val (.int p0_4), .val (.int p0_5), .val (.int (2 : Int32)), .val (.int (4 : Int32)), .unset, .unset, .unset, .unset, .unset] [])) _
        refine XS.iload X0.here hx rfl (hb hby at_124) rfl ?_
        refine XS.iconst X0.here hx rfl (hb hby at_126) ?_
        refine XS.icmpYes X0.here hx rfl (pc0 := 127) (pc' := 135) rfl (hb hby at_127) rfl (feq (by decide : ¬ ((2 : Int32) = (1 : Int32)))).2 (by decide) (by decide) ?_
        refine st664 _ ?_
        refine XS.astore X664.here hx rfl (hb hby at_137) rfl rfl (l' := #[.val (.int p0_0), .val (.int p0_1), .val (.int p0_2), .val (.int p0_3), .val (.int p0_4), .val (.int p0_5), .val (.int (2 : Int32)), .val (.int (4 : Int32)), .unset, .val (.ref b664), .unset, .unset, .unset]) rfl ?_
        refine XS.aload X664.here hx rfl (hb hby at_139) rfl rfl ?_
        refine st667.trans ?_
        refine XS.istore X667.here hx rfl (hb hby at_144) rfl (l' := #[.val (.int p0_0), .val (.int p0_1), .val (.int p0_2), .val (.int p0_3), .val (.int p0_4), .val (.int p0_5), .val (.int (2 : Int32)), .val (.int (4 : Int32)), .unset, .val (.ref b664), .val (.int (4 : Int32)), .unset, .unset]) rfl ?_
        refine XS.iload X667.here hx rfl (hb hby at_146) rfl ?_
        refine XS.iconst X667.here hx rfl (hb hby at_148) ?_
        refine XS.icmpNo X667.here hx rfl (hb hby at_149) rfl (teq (by decide : (4 : Int32) = (4 : Int32))).2 ?_
        refine XS.aconstNull X667.here hx rfl (hb hby at_152) ?_
        refine XS.astore X667.here hx rfl (hb hby at_153) rfl rfl (l' := #[.val (.int p0_0), .val (.int p0_1), .val (.int p0_2), .val (.int p0_3), .val (.int p0_4), .val (.int p0_5), .val (.int (2 : Int32)), .val (.int (4 : Int32)), .val .null, .val (.ref b664), .val (.int (4 : Int32)), .unset, .unset]) rfl ?_
        refine XS.goto X667.here hx rfl (pc0 := 155) (pc' := 242) rfl (hb hby at_155) (by decide) (by decide) ?_
        exact k
      obtain ⟨t_, o_, ss_, s2_, s3_, v_, L_, hv_, hq_, hf_⟩ := sgs0 hw hEL wS h0 p0_0 p0_1 p0_2 p0_3 p0_4 p0_5 (2 : Int32) (4 : Int32) (.unset) (.unset) b664 (.val (.int (4 : Int32))) u_EMPTY u__VALUES cl_u__VALUES u_RESPONSE_TIME u_THROUGHPUT u_COST u_RESPONSE_TIME_column u_RESPONSE_TIME_column_value cl_u_RESPONSE_TIME_column_value u_THROUGHPUT_column u_THROUGHPUT_column_value cl_u_THROUGHPUT_column_value u_COST_column u_COST_column_value cl_u_COST_column_value cs h664 n0 Zs664 S_EMPTY E_u_EMPTY F_u_EMPTY_value S__VALUES E_u__VALUES S_RESPONSE_TIME E_u_RESPONSE_TIME S_THROUGHPUT E_u_THROUGHPUT S_COST E_u_COST F_u_RESPONSE_TIME_column E_u_RESPONSE_TIME_column F_u_RESPONSE_TIME_column_coder F_u_RESPONSE_TIME_column_value F_u_THROUGHPUT_column E_u_THROUGHPUT_column F_u_THROUGHPUT_column_coder F_u_THROUGHPUT_column_value F_u_COST_column E_u_COST_column F_u_COST_column_coder F_u_COST_column_value V_u__VALUES V_u_RESPONSE_TIME_column_value V_u_THROUGHPUT_column_value V_u_COST_column_value K664 F665 hcs (Or.inr ⟨_, rfl, rfl⟩) (X667.more (by decide) (by decide)) hx hZ hby hml hown Bd.returns (by first | assumption | exact BodyLoose.notSynchronized (by assumption) | exact Body.notSynchronized (by assumption)) eh667 N667 hh hS hk hCR
      exact ⟨t_, o_, k668 _ ss_, s2_, s3_, v_, L_, hv_, hq_, hf_⟩
  · skip
    obtain ⟨z669, hz669⟩ : ∃ z, z = ((p0_1 &&& (2147483647 : Int32)) % (5 : Int32)) := ⟨_, rfl⟩
    rw [← hz669] at k1
    have hz669' : z669 = (0 : Int32) ∨ z669 = (1 : Int32) ∨ z669 = (2 : Int32) ∨ z669 = (3 : Int32) ∨ z669 = (4 : Int32) := by rw [hz669]; exact own_mod5 _
    rcases hz669' with rfl | rfl | rfl | rfl | rfl
    · skip
      obtain ⟨b670, g670⟩ : ∃ z, z = h0.size := ⟨_, rfl⟩
      obtain ⟨T670, h670, k670, X670, e670, E670, A670, st670⟩ := newP X0 hx hZ (wd hw 22 rfl) e0 (g := (mkF m 24 #[.val (.int p0_0), .val (.int p0_1), .val (.int p0_2), .val (.int p0_3), .val (.int p0_4), .val (.int p0_5), .val (.int (3 : Int32)), .val (.int (0 : Int32)), .unset, .unset, .unset, .unset, .unset] [(.int (0 : Int32))])) rfl (hb hby at_24) rfl (by decide) (cap := 0) (by decide) (by decide) (by decide) (by decide)
      rw [← g670] at A670 st670
      have sfn670 := Safe.new (Z := Z) (EL := consts_1) (vm := s.vm) (Nat.le_of_eq g670.symm)
      have sf671 := Safe.ext E670 hCR.1 sfn670
      have hCR := hCR.trans (CHr.ext E670 hCR.1)
      have hk := Nat.le_trans hk E670.1
      have gg670 : n0 ≤ b670 := Nat.le_trans Z0 (Nat.le_of_eq g670.symm)
      have sz670 : h0.size ≤ b670 := Nat.le_trans (Keep.refl h0 []).1 (Nat.le_of_eq g670.symm)
      have Zs670 : n0 ≤ h670.size := Nat.le_trans Z0 E670.1
      have K670 : Keep h0 h670 [] := (Keep.refl h0 []).ext E670
      have F672 := Sc.ext E670
      have F673 := Sf.ext E670
      have V670 : Arv Z h670 b670 k670 .char (0 : Int32) [] (.int (0 : Int32)) := Arv.new A670 (by decide)
      obtain ⟨b674, g674⟩ : ∃ z, z = h670.size := ⟨_, rfl⟩
      obtain ⟨T674, h674, X674, e674, E674, A674, D674, -, st674⟩ := newO X670 hx hZ hown (wd hw 52 rfl) (wd hw 3 rfl) (wd hw 2 rfl) e670 (g := (mkF m 100 #[.val (.int p0_0), .val (.int p0_1), .val (.int p0_2), .val (.int p0_3), .val (.int p0_4), .val (.int p0_5), .val (.int (3 : Int32)), .val (.int (0 : Int32)), .unset, .val (.ref b670), .unset, .unset, .unset] [])) rfl (hb hby at_100) (by decide) (by decide)
      rw [← g674] at A674 D674 st674
      have ne675 : b670 ≠ b674 := Nat.ne_of_lt (Nat.lt_of_lt_of_le V670.lt (Nat.le_of_eq g674.symm))
      have sfn674 := Safe.new (Z := Z) (EL := consts_1) (vm := s.vm) (Nat.le_of_eq g674.symm)
      have sf676 := Safe.ext E674 hCR.1 sf671
      have sf677 := Safe.ext E674 hCR.1 sfn674
      have hCR := hCR.trans (CHr.ext E674 hCR.1)
      have hk := Nat.le_trans hk E674.1
      have gg674 : n0 ≤ b674 := Nat.le_trans Zs670 (Nat.le_of_eq g674.symm)
      have sz674 : h0.size ≤ b674 := Nat.le_trans K670.1 (Nat.le_of_eq g674.symm)
      have Zs674 : n0 ≤ h674.size := Nat.le_trans Zs670 E674.1
      have K674 : Keep h0 h674 [] := K670.ext E674
      have F678 := F672.ext E674
      have F679 := F673.ext E674
      have F680 := V670.ext E674
      have F681 : Fld Z h674 b674 "java/lang/String" "value" "[B" .null := D674 (Or.inr (wd hw 5 rfl)) (ty := (.array .byte)) (by decide)
      have F682 : Fld Z h674 b674 "java/lang/String" "coder" "B" (.int (0 : Int32)) := D674 (Or.inr (wd hw 6 rfl)) (ty := .byte) (by decide)
      obtain ⟨_, _, ⟨T683, L683, k683, n683⟩, -, X683, hS2, hg2, ⟨Lc683, hQ683, l683, y683, z683, hC683⟩, st683⟩ := X674.specialBackS hx (y := (⟨"java/lang/String", "<init>", "([C)V"⟩ : MethodName)) rfl hown (mvT hZ (wd hw 53 rfl)) (mvT hZ (wd hw 54 rfl)) (mvT hZ (wd hw 55 rfl)) (by decide) (backOfSH (W := 1) (rm2 l Z a0 hw [] hEL wS b674 b670 k670 h674 n0 Zs674 A674 F681 F682 F680 gg674) hZ (wd hw 55 rfl) (wd hw 2 rfl) (by decide) (by decide) hEL hCR.1) (g := (mkF m 106 #[.val (.int p0_0), .val (.int p0_1), .val (.int p0_2), .val (.int p0_3), .val (.int p0_4), .val (.int p0_5), .val (.int (3 : Int32)), .val (.int (0 : Int32)), .unset, .val (.ref b670), .unset, .unset, .unset] [(.ref b670), (.ref b674), (.ref b674)])) rfl (by rw [hml]; rfl) (Steps.refl _) (a := b674) (argsL := [(.ref b670)]) (rest := [(.ref b674)]) (lenOf pd_13 rfl) rfl (by show 2 * 0 + _ ≤ _; exact Nat.le_of_eq rfl) (hb hby at_106) (fun _ _ => ⟨rfl, e674, (by decide : 2 + 4 ≤ _), (by decide : 4 + 8 ≤ _)⟩)
      dsimp only [Pt.U, Pt.locs, Pt.cells, Pt.slots] at X683 hS2 hg2 hC683 l683 y683 z683 st683 hQ683
      rw [l683, y683, z683] at X683
      obtain ⟨X683, hS, hZ, hown⟩ := rebS hS (by rw [e674]; exact hk) X683 hS2 hg2 hZ hown
      have hk := Nat.le_refl T683.heap.size
      have hCR := hCR.trans hC683
      obtain ⟨d2_683, kv2_683, rfl, N683q, Kc683, G683_0, G683_1, G683_2, G683_3⟩ := hQ683
      have Zs683 : n0 ≤ T683.heap.size := Nat.le_trans Zs674 Kc683.1
      have K683 : Keep h0 T683.heap [] := K674.trans Kc683 (allS (Or.inr sz674) all0)
      have sf684 := hC683.safe F680.lt sf676
      have sf685 := hC683.safe A674.lt sf677
      have F686 := own_stakeep F678 Kc683 (allS (own_nsE A674) all0)
      have F687 := own_stakeep F679 Kc683 (allS (own_nsE A674) all0)
      have F688 := F680.keep Kc683 (ninS ne675 nin0)
      have N683 := Fr.app N0 N683q
      have Ve : Arv Z T683.heap d2_683 kv2_683 .byte (0 : Int32) (List.map Value.int (List.map (fun c => c.toInt8.toInt32) ([] : List Int32))) (.int (0 : Int32)) := G683_3
      have k689 : ∀ t, Steps p.tables e below (T683.setTop (mkF m 242 #[.val (.int p0_0), .val (.int p0_1), .val (.int p0_2), .val (.int p0_3), .val (.int p0_4), .val (.int p0_5), .val (.int (3 : Int32)), .val (.int (0 : Int32)), .val (.ref b674), .val (.ref b670), .unset, .unset, .unset] [])) t → Steps p.tables e below (s₁.setTop (entryFrame m #[(.int p0_0), (.int p0_1), (.int p0_2), (.int p0_3), (.int p0_4), (.int p0_5)] maxLocals)) t := by
        intro t k
        refine k1 t ?_
        refine XS.iload X0.here hx rfl (hb hby at_16) rfl ?_
        refine XS.iconst X0.here hx rfl (hb hby at_18) ?_
        refine XS.icmpNo X0.here hx rfl (hb hby at_19) rfl (teq (by decide : (3 : Int32) = (3 : Int32))).2 ?_
        refine XS.iload X0.here hx rfl (hb hby at_22) rfl ?_
        refine st670 _ ?_
        show Steps p.tables e below (T670.setTop (mkF m 26 #[.val (.int p0_0), .val (.int p0_1), .val (.int p0_2), .val (.int p0_3), .val (.int p0_4), .val (.int p0_5), .val (.int (3 : Int32)), .val (.int (0 : Int32)), .unset, .unset, .unset, .unset, .unset] [(.ref b670)])) _
        refine XS.astore X670.here hx rfl (hb hby at_26) rfl rfl (l' := #[.val (.int p0_0), .val (.int p0_1), .val (.int p0_2), .val (.int p0_3), .val (.int p0_4), .val (.int p0_5), .val (.int (3 : Int32)), .val (.int (0 : Int32)), .unset, .val (.ref b670), .unset, .unset, .unset]) rfl ?_
        refine XS.iload X670.here hx rfl (hb hby at_28) rfl ?_
        refine XS.ifYes X670.here hx rfl (pc0 := 30) (pc' := 43) rfl (hb hby at_30) rfl ((if0 _ _).trans (flt (by decide : ¬ ((0 : Int32) < (0 : Int32)))).2.2.2) (by decide) (by decide) ?_
        refine XS.iload X670.here hx rfl (hb hby at_43) rfl ?_
        refine XS.iconst X670.here hx rfl (hb hby at_45) ?_
        refine XS.icmpYes X670.here hx rfl (pc0 := 46) (pc' := 62) rfl (hb hby at_46) rfl (flt (by decide : ¬ ((1 : Int32) < (0 : Int32)))).2.2.2 (by decide) (by decide) ?_
        refine XS.iload X670.here hx rfl (hb hby at_62) rfl ?_
        refine XS.iconst X670.here hx rfl (hb hby at_64) ?_
        refine XS.icmpYes X670.here hx rfl (pc0 := 65) (pc' := 81) rfl (hb hby at_65) rfl (flt (by decide : ¬ ((2 : Int32) < (0 : Int32)))).2.2.2 (by decide) (by decide) ?_
        refine XS.iload X670.here hx rfl (hb hby at_81) rfl ?_
        refine XS.iconst X670.here hx rfl (hb hby at_83) ?_
        refine XS.icmpYes X670.here hx rfl (pc0 := 84) (pc' := 100) rfl (hb hby at_84) rfl (flt (by decide : ¬ ((3 : Int32) < (0 : Int32)))).2.2.2 (by decide) (by decide) ?_
        refine st674 _ ?_
        refine XS.dup X674.here hx rfl (hb hby at_103) rfl rfl ?_
        refine XS.aload X674.here hx rfl (hb hby at_104) rfl rfl ?_
        refine st683.trans ?_
        refine XS.astore X683.here hx rfl (hb hby at_109) rfl rfl (l' := #[.val (.int p0_0), .val (.int p0_1), .val (.int p0_2), .val (.int p0_3), .val (.int p0_4), .val (.int p0_5), .val (.int (3 : Int32)), .val (.int (0 : Int32)), .val (.ref b674), .val (.ref b670), .unset, .unset, .unset]) rfl ?_
        refine XS.goto X683.here hx rfl (pc0 := 111) (pc' := 242) rfl (hb hby at_111) (by decide) (by decide) ?_
        exact k
      obtain ⟨t_, o_, ss_, s2_, s3_, v_, L_, hv_, hq_, hf_⟩ := sgs1 hw hEL wS h0 p0_0 p0_1 p0_2 p0_3 p0_4 p0_5 (3 : Int32) (0 : Int32) b674 (.unset) (.unset) b670 (.unset) u_EMPTY u__VALUES cl_u__VALUES u_RESPONSE_TIME u_THROUGHPUT u_COST u_RESPONSE_TIME_column u_RESPONSE_TIME_column_value cl_u_RESPONSE_TIME_column_value u_THROUGHPUT_column u_THROUGHPUT_column_value cl_u_THROUGHPUT_column_value u_COST_column u_COST_column_value cl_u_COST_column_value cs d2_683 kv2_683 (0 : Int32) ([] : List Int32) T683.heap n0 Zs683 S_EMPTY E_u_EMPTY F_u_EMPTY_value S__VALUES E_u__VALUES S_RESPONSE_TIME E_u_RESPONSE_TIME S_THROUGHPUT E_u_THROUGHPUT S_COST E_u_COST F_u_RESPONSE_TIME_column E_u_RESPONSE_TIME_column F_u_RESPONSE_TIME_column_coder F_u_RESPONSE_TIME_column_value F_u_THROUGHPUT_column E_u_THROUGHPUT_column F_u_THROUGHPUT_column_coder F_u_THROUGHPUT_column_value F_u_COST_column E_u_COST_column F_u_COST_column_coder F_u_COST_column_value V_u__VALUES V_u_RESPONSE_TIME_column_value V_u_THROUGHPUT_column_value V_u_COST_column_value K683 F686 G683_0 G683_1 G683_2 Ve hcs (Or.inl rfl) rfl own_al0 (Nat.le_of_ble_eq_true rfl) (X683.more (by decide) (by decide)) hx hZ hby hml hown Bd.returns (by first | assumption | exact BodyLoose.notSynchronized (by assumption) | exact Body.notSynchronized (by assumption)) rfl N683 hh hS hk hCR
      exact ⟨t_, o_, k689 _ ss_, s2_, s3_, v_, L_, hv_, hq_, hf_⟩
    · skip
      obtain ⟨b690, g690⟩ : ∃ z, z = h0.size := ⟨_, rfl⟩
      obtain ⟨T690, h690, k690, X690, e690, E690, A690, st690⟩ := newP X0 hx hZ (wd hw 22 rfl) e0 (g := (mkF m 24 #[.val (.int p0_0), .val (.int p0_1), .val (.int p0_2), .val (.int p0_3), .val (.int p0_4), .val (.int p0_5), .val (.int (3 : Int32)), .val (.int (1 : Int32)), .unset, .unset, .unset, .unset, .unset] [(.int (1 : Int32))])) rfl (hb hby at_24) rfl (by decide) (cap := 1) (by decide) (by decide) (by decide) (by decide)
      rw [← g690] at A690 st690
      have sfn690 := Safe.new (Z := Z) (EL := consts_1) (vm := s.vm) (Nat.le_of_eq g690.symm)
      have sf691 := Safe.ext E690 hCR.1 sfn690
      have hCR := hCR.trans (CHr.ext E690 hCR.1)
      have hk := Nat.le_trans hk E690.1
      have gg690 : n0 ≤ b690 := Nat.le_trans Z0 (Nat.le_of_eq g690.symm)
      have sz690 : h0.size ≤ b690 := Nat.le_trans (Keep.refl h0 []).1 (Nat.le_of_eq g690.symm)
      have Zs690 : n0 ≤ h690.size := Nat.le_trans Z0 E690.1
      have K690 : Keep h0 h690 [] := (Keep.refl h0 []).ext E690
      have F692 := Sc.ext E690
      have F693 := Sf.ext E690
      have V690 : Arv Z h690 b690 k690 .char (1 : Int32) [(.int (0 : Int32))] (.int (0 : Int32)) := (Arv.new A690 (by decide)).pad (pad_rep [] (.int (0 : Int32)) 1)
      have k694 : ∀ t, Steps p.tables e below (T690.setTop (mkF m 42 #[.val (.int p0_0), .val (.int p0_1), .val (.int p0_2), .val (.int p0_3), .val (.int p0_4), .val (.int p0_5), .val (.int (3 : Int32)), .val (.int (1 : Int32)), .unset, .val (.ref b690), .unset, .unset, .unset] [(.int (p0_3 &&& (255 : Int32)).toUInt32.toUInt16.toUInt32.toInt32), (.int (0 : Int32)), (.ref b690)])) t → Steps p.tables e below (s₁.setTop (entryFrame m #[(.int p0_0), (.int p0_1), (.int p0_2), (.int p0_3), (.int p0_4), (.int p0_5)] maxLocals)) t := by
        intro t k
        refine k1 t ?_
        refine XS.iload X0.here hx rfl (hb hby at_16) rfl ?_
        refine XS.iconst X0.here hx rfl (hb hby at_18) ?_
        refine XS.icmpNo X0.here hx rfl (hb hby at_19) rfl (teq (by decide : (3 : Int32) = (3 : Int32))).2 ?_
        refine XS.iload X0.here hx rfl (hb hby at_22) rfl ?_
        refine st690 _ ?_
        show Steps p.tables e below (T690.setTop (mkF m 26 #[.val (.int p0_0), .val (.int p0_1), .val (.int p0_2), .val (.int p0_3), .val (.int p0_4), .val (.int p0_5), .val (.int (3 : Int32)), .val (.int (1 : Int32)), .unset, .unset, .unset, .unset, .unset] [(.ref b690)])) _
        refine XS.astore X690.here hx rfl (hb hby at_26) rfl rfl (l' := #[.val (.int p0_0), .val (.int p0_1), .val (.int p0_2), .val (.int p0_3), .val (.int p0_4), .val (.int p0_5), .val (.int (3 : Int32)), .val (.int (1 : Int32)), .unset, .val (.ref b690), .unset, .unset, .unset]) rfl ?_
        refine XS.iload X690.here hx rfl (hb hby at_28) rfl ?_
        refine XS.ifNo X690.here hx rfl (hb hby at_30) rfl ((if0 _ _).trans (tlt (by decide : (0 : Int32) < (1 : Int32))).2.2.2) ?_
        refine XS.aload X690.here hx rfl (hb hby at_33) rfl rfl ?_
        refine XS.iconst X690.here hx rfl (hb hby at_35) ?_
        refine XS.iloadN X690.here hx rfl (hb hby at_36) rfl ?_
        refine XS.sipush X690.here hx rfl (hb hby at_37) ?_
        refine XS.iand X690.here hx rfl (hb hby at_40) rfl ?_
        refine XS.i2c X690.here hx rfl (hb hby at_41) rfl ?_
        exact k
      rw [show (p0_3 &&& (255 : Int32)).toUInt32.toUInt16.toUInt32.toInt32 = (p0_3 &&& (255 : Int32)) from own_i2c _ (own_m255 _)] at k694
      obtain ⟨zc0, hzc0⟩ : ∃ z, z = (p0_3 &&& (255 : Int32)) := ⟨_, rfl⟩
      rw [← hzc0] at k694
      have hr_zc0 : ¬ (zc0 < (0 : Int32)) ∧ ¬ ((255 : Int32) < zc0) := by rw [hzc0]; exact own_m255 _
      obtain ⟨cl695, Ar695, qc695, Sz695, Nn695, Hh695, Gg695⟩ := (id V690)
      have hin695 : ¬ ((0 : Int32) < 0 ∨ cl695.slots.size ≤ ((0 : Int32)).toNatClampNeg) := inb_of Sz695 ⟨by decide, by decide⟩
      obtain ⟨T695, h695, X695, e695, W695, st695⟩ := stC X690 hx hZ e690 Ar695 (j := (0 : Int32)) hin695 (g := (mkF m 42 #[.val (.int p0_0), .val (.int p0_1), .val (.int p0_2), .val (.int p0_3), .val (.int p0_4), .val (.int p0_5), .val (.int (3 : Int32)), .val (.int (1 : Int32)), .unset, .val (.ref b690), .unset, .unset, .unset] [(.int zc0), (.int (0 : Int32)), (.ref b690)])) rfl rfl (hb hby at_42)
      have sf696 := Safe.wr W695 (Safe.arv hZ.alike V690 (by decide)) hCR.1 sf691
      have hCR := hCR.trans (CHr.wr W695 (Safe.arv hZ.alike V690 (by decide)) hCR.1)
      have hk := Nat.le_trans hk (Nat.le_of_eq W695.size.symm)
      have F697 := F692.wr W695
      have F698 := F693.wr W695
      have V695 : Arv Z h695 b690 k690 .char (1 : Int32) [(.int (nar .char zc0))] (.int (0 : Int32)) := Arv.set Ar695 qc695 Sz695 Nn695 Hh695 Gg695 (fits_nar_char _) W695 0 rfl (Nat.le_of_ble_eq_true rfl)
      rw [show nar .char zc0 = zc0 from own_narC _ hr_zc0] at V695
      have N695 := Fr.snoc X695 N0 gg690
      have K695 : Keep h0 h695 [] := K690.wr W695 (Or.inr sz690)
      have Zs695 : n0 ≤ h695.size := by rw [W695.size]; exact Zs690
      obtain ⟨b700, g700⟩ : ∃ z, z = h695.size := ⟨_, rfl⟩
      obtain ⟨T700, h700, X700, e700, E700, A700, D700, -, st700⟩ := newO X695 hx hZ hown (wd hw 52 rfl) (wd hw 3 rfl) (wd hw 2 rfl) e695 (g := (mkF m 100 #[.val (.int p0_0), .val (.int p0_1), .val (.int p0_2), .val (.int p0_3), .val (.int p0_4), .val (.int p0_5), .val (.int (3 : Int32)), .val (.int (1 : Int32)), .unset, .val (.ref b690), .unset, .unset, .unset] [])) rfl (hb hby at_100) (by decide) (by decide)
      rw [← g700] at A700 D700 st700
      have ne701 : b690 ≠ b700 := Nat.ne_of_lt (Nat.lt_of_lt_of_le V695.lt (Nat.le_of_eq g700.symm))
      have sfn700 := Safe.new (Z := Z) (EL := consts_1) (vm := s.vm) (Nat.le_of_eq g700.symm)
      have sf702 := Safe.ext E700 hCR.1 sf696
      have sf703 := Safe.ext E700 hCR.1 sfn700
      have hCR := hCR.trans (CHr.ext E700 hCR.1)
      have hk := Nat.le_trans hk E700.1
      have gg700 : n0 ≤ b700 := Nat.le_trans Zs695 (Nat.le_of_eq g700.symm)
      have sz700 : h0.size ≤ b700 := Nat.le_trans K695.1 (Nat.le_of_eq g700.symm)
      have Zs700 : n0 ≤ h700.size := Nat.le_trans Zs695 E700.1
      have K700 : Keep h0 h700 [] := K695.ext E700
      have F704 := F697.ext E700
      have F705 := F698.ext E700
      have F706 := V695.ext E700
      have F707 : Fld Z h700 b700 "java/lang/String" "value" "[B" .null := D700 (Or.inr (wd hw 5 rfl)) (ty := (.array .byte)) (by decide)
      have F708 : Fld Z h700 b700 "java/lang/String" "coder" "B" (.int (0 : Int32)) := D700 (Or.inr (wd hw 6 rfl)) (ty := .byte) (by decide)
      obtain ⟨_, _, ⟨T709, L709, k709, n709⟩, -, X709, ⟨Lc709, hQ709, l709, y709, z709⟩, st709⟩ := X700.specialBack hx (y := (⟨"java/lang/String", "<init>", "([C)V"⟩ : MethodName)) rfl hown (mvT hZ (wd hw 53 rfl)) (mvT hZ (wd hw 54 rfl)) (mvT hZ (wd hw 55 rfl)) (by decide) (StrChars.Road.backV (W := 1) hZ (fun d hd => hw d (own_sub_backV d hd)) (kI := 4) (wd hw 3 rfl) (cs := ([zc0] : List Int32)) (bs := ([zc0] : List Int32).map (fun c => c.toInt8.toInt32)) (n := 1) gg700 Zs700 A700 F707 F708 F706 F704 hcs rfl rfl (by decide) (by decide) (own_alS ⟨hr_zc0.1, hr_zc0.2⟩ own_al0) rfl (by decide) (by decide)) (g := (mkF m 106 #[.val (.int p0_0), .val (.int p0_1), .val (.int p0_2), .val (.int p0_3), .val (.int p0_4), .val (.int p0_5), .val (.int (3 : Int32)), .val (.int (1 : Int32)), .unset, .val (.ref b690), .unset, .unset, .unset] [(.ref b690), (.ref b700), (.ref b700)])) rfl (by rw [hml]; rfl) (Steps.refl _) (a := b700) (argsL := [(.ref b690)]) (rest := [(.ref b700)]) (lenOf pd_13 rfl) rfl (by show 2 * 0 + _ ≤ _; exact Nat.le_of_eq rfl) (hb hby at_106) (fun _ _ => ⟨rfl, e700, (by decide : 2 + 1 ≤ _), (by decide : 5 + 1 ≤ _)⟩)
      dsimp only [Pt.U, Pt.locs, Pt.cells, Pt.slots] at X709 l709 y709 z709 st709 hQ709
      rw [l709, y709, z709] at X709
      obtain ⟨rfl, N709q, Kc709, G709_0, G709_1, t709, kb709, ggt709, szt709, nex709, G709_2, G709_3⟩ := hQ709
      have szz709 : h0.size ≤ t709 := Nat.le_trans K700.1 szt709
      have Zs709 : n0 ≤ T709.heap.size := Nat.le_trans Zs700 Kc709.1
      have K709 : Keep h0 T709.heap [] := K700.trans Kc709 (allS (Or.inr sz700) all0)
      have sf710 := Safe.keep Kc709 (sfS sf703 sf0) hCR.1 sf702
      have sf711 := Safe.keep Kc709 (sfS sf703 sf0) hCR.1 sf703
      have hCR := hCR.trans (CHr.keep Kc709 (sfS sf703 sf0) hCR.1)
      have hk := Nat.le_trans hk Kc709.1
      have F712 := own_stakeep F704 Kc709 (allS (own_nsE A700) all0)
      have F713 := own_stakeep F705 Kc709 (allS (own_nsE A700) all0)
      have F714 := F706.keep Kc709 (ninS ne701 nin0)
      have N709 := Fr.app N695 N709q
      have k715 : ∀ t, Steps p.tables e below (T709.setTop (mkF m 242 #[.val (.int p0_0), .val (.int p0_1), .val (.int p0_2), .val (.int p0_3), .val (.int p0_4), .val (.int p0_5), .val (.int (3 : Int32)), .val (.int (1 : Int32)), .val (.ref b700), .val (.ref b690), .unset, .unset, .unset] [])) t → Steps p.tables e below (s₁.setTop (entryFrame m #[(.int p0_0), (.int p0_1), (.int p0_2), (.int p0_3), (.int p0_4), (.int p0_5)] maxLocals)) t := by
        intro t k
        refine k694 t ?_
        refine st695 _ ?_
        refine XS.iload X695.here hx rfl (hb hby at_43) rfl ?_
        refine XS.iconst X695.here hx rfl (hb hby at_45) ?_
        refine XS.icmpYes X695.here hx rfl (pc0 := 46) (pc' := 62) rfl (hb hby at_46) rfl (flt (by decide : ¬ ((1 : Int32) < (1 : Int32)))).2.2.2 (by decide) (by decide) ?_
        refine XS.iload X695.here hx rfl (hb hby at_62) rfl ?_
        refine XS.iconst X695.here hx rfl (hb hby at_64) ?_
        refine XS.icmpYes X695.here hx rfl (pc0 := 65) (pc' := 81) rfl (hb hby at_65) rfl (flt (by decide : ¬ ((2 : Int32) < (1 : Int32)))).2.2.2 (by decide) (by decide) ?_
        refine XS.iload X695.here hx rfl (hb hby at_81) rfl ?_
        refine XS.iconst X695.here hx rfl (hb hby at_83) ?_
        show Steps p.tables e below (T695.setTop (mkF m 84 #[.val (.int p0_0), .val (.int p0_1), .val (.int p0_2), .val (.int p0_3), .val (.int p0_4), .val (.int p0_5), .val (.int (3 : Int32)), .val (.int (1 : Int32)), .unset, .val (.ref b690), .unset, .unset, .unset] [(.int (3 : Int32)), (.int (1 : Int32))])) _
        refine XS.icmpYes X695.here hx rfl (pc0 := 84) (pc' := 100) rfl (hb hby at_84) rfl (flt (by decide : ¬ ((3 : Int32) < (1 : Int32)))).2.2.2 (by decide) (by decide) ?_
        refine st700 _ ?_
        refine XS.dup X700.here hx rfl (hb hby at_103) rfl rfl ?_
        refine XS.aload X700.here hx rfl (hb hby at_104) rfl rfl ?_
        refine st709.trans ?_
        refine XS.astore X709.here hx rfl (hb hby at_109) rfl rfl (l' := #[.val (.int p0_0), .val (.int p0_1), .val (.int p0_2), .val (.int p0_3), .val (.int p0_4), .val (.int p0_5), .val (.int (3 : Int32)), .val (.int (1 : Int32)), .val (.ref b700), .val (.ref b690), .unset, .unset, .unset]) rfl ?_
        refine XS.goto X709.here hx rfl (pc0 := 111) (pc' := 242) rfl (hb hby at_111) (by decide) (by decide) ?_
        exact k
      obtain ⟨t_, o_, ss_, s2_, s3_, v_, L_, hv_, hq_, hf_⟩ := sgs1 hw hEL wS h0 p0_0 p0_1 p0_2 p0_3 p0_4 p0_5 (3 : Int32) (1 : Int32) b700 (.unset) (.unset) b690 (.unset) u_EMPTY u__VALUES cl_u__VALUES u_RESPONSE_TIME u_THROUGHPUT u_COST u_RESPONSE_TIME_column u_RESPONSE_TIME_column_value cl_u_RESPONSE_TIME_column_value u_THROUGHPUT_column u_THROUGHPUT_column_value cl_u_THROUGHPUT_column_value u_COST_column u_COST_column_value cl_u_COST_column_value cs t709 kb709 (1 : Int32) ([zc0] : List Int32) T709.heap n0 Zs709 S_EMPTY E_u_EMPTY F_u_EMPTY_value S__VALUES E_u__VALUES S_RESPONSE_TIME E_u_RESPONSE_TIME S_THROUGHPUT E_u_THROUGHPUT S_COST E_u_COST F_u_RESPONSE_TIME_column E_u_RESPONSE_TIME_column F_u_RESPONSE_TIME_column_coder F_u_RESPONSE_TIME_column_value F_u_THROUGHPUT_column E_u_THROUGHPUT_column F_u_THROUGHPUT_column_coder F_u_THROUGHPUT_column_value F_u_COST_column E_u_COST_column F_u_COST_column_coder F_u_COST_column_value V_u__VALUES V_u_RESPONSE_TIME_column_value V_u_THROUGHPUT_column_value V_u_COST_column_value K709 F712 G709_0 G709_2 G709_1 G709_3 hcs (Or.inl rfl) rfl (own_alS ⟨hr_zc0.1, hr_zc0.2⟩ own_al0) (Nat.le_of_ble_eq_true rfl) (X709.more (by decide) (by decide)) hx hZ hby hml hown Bd.returns (by first | assumption | exact BodyLoose.notSynchronized (by assumption) | exact Body.notSynchronized (by assumption)) rfl N709 hh hS hk hCR
      exact ⟨t_, o_, k715 _ ss_, s2_, s3_, v_, L_, hv_, hq_, hf_⟩
    · skip
      obtain ⟨b716, g716⟩ : ∃ z, z = h0.size := ⟨_, rfl⟩
      obtain ⟨T716, h716, k716, X716, e716, E716, A716, st716⟩ := newP X0 hx hZ (wd hw 22 rfl) e0 (g := (mkF m 24 #[.val (.int p0_0), .val (.int p0_1), .val (.int p0_2), .val (.int p0_3), .val (.int p0_4), .val (.int p0_5), .val (.int (3 : Int32)), .val (.int (2 : Int32)), .unset, .unset, .unset, .unset, .unset] [(.int (2 : Int32))])) rfl (hb hby at_24) rfl (by decide) (cap := 2) (by decide) (by decide) (by decide) (by decide)
      rw [← g716] at A716 st716
      have sfn716 := Safe.new (Z := Z) (EL := consts_1) (vm := s.vm) (Nat.le_of_eq g716.symm)
      have sf717 := Safe.ext E716 hCR.1 sfn716
      have hCR := hCR.trans (CHr.ext E716 hCR.1)
      have hk := Nat.le_trans hk E716.1
      have gg716 : n0 ≤ b716 := Nat.le_trans Z0 (Nat.le_of_eq g716.symm)
      have sz716 : h0.size ≤ b716 := Nat.le_trans (Keep.refl h0 []).1 (Nat.le_of_eq g716.symm)
      have Zs716 : n0 ≤ h716.size := Nat.le_trans Z0 E716.1
      have K716 : Keep h0 h716 [] := (Keep.refl h0 []).ext E716
      have F718 := Sc.ext E716
      have F719 := Sf.ext E716
      have V716 : Arv Z h716 b716 k716 .char (2 : Int32) [(.int (0 : Int32)), (.int (0 : Int32))] (.int (0 : Int32)) := (Arv.new A716 (by decide)).pad (pad_rep [] (.int (0 : Int32)) 2)
      have k720 : ∀ t, Steps p.tables e below (T716.setTop (mkF m 42 #[.val (.int p0_0), .val (.int p0_1), .val (.int p0_2), .val (.int p0_3), .val (.int p0_4), .val (.int p0_5), .val (.int (3 : Int32)), .val (.int (2 : Int32)), .unset, .val (.ref b716), .unset, .unset, .unset] [(.int (p0_3 &&& (255 : Int32)).toUInt32.toUInt16.toUInt32.toInt32), (.int (0 : Int32)), (.ref b716)])) t → Steps p.tables e below (s₁.setTop (entryFrame m #[(.int p0_0), (.int p0_1), (.int p0_2), (.int p0_3), (.int p0_4), (.int p0_5)] maxLocals)) t := by
        intro t k
        refine k1 t ?_
        refine XS.iload X0.here hx rfl (hb hby at_16) rfl ?_
        refine XS.iconst X0.here hx rfl (hb hby at_18) ?_
        refine XS.icmpNo X0.here hx rfl (hb hby at_19) rfl (teq (by decide : (3 : Int32) = (3 : Int32))).2 ?_
        refine XS.iload X0.here hx rfl (hb hby at_22) rfl ?_
        refine st716 _ ?_
        show Steps p.tables e below (T716.setTop (mkF m 26 #[.val (.int p0_0), .val (.int p0_1), .val (.int p0_2), .val (.int p0_3), .val (.int p0_4), .val (.int p0_5), .val (.int (3 : Int32)), .val (.int (2 : Int32)), .unset, .unset, .unset, .unset, .unset] [(.ref b716)])) _
        refine XS.astore X716.here hx rfl (hb hby at_26) rfl rfl (l' := #[.val (.int p0_0), .val (.int p0_1), .val (.int p0_2), .val (.int p0_3), .val (.int p0_4), .val (.int p0_5), .val (.int (3 : Int32)), .val (.int (2 : Int32)), .unset, .val (.ref b716), .unset, .unset, .unset]) rfl ?_
        refine XS.iload X716.here hx rfl (hb hby at_28) rfl ?_
        refine XS.ifNo X716.here hx rfl (hb hby at_30) rfl ((if0 _ _).trans (tlt (by decide : (0 : Int32) < (2 : Int32))).2.2.2) ?_
        refine XS.aload X716.here hx rfl (hb hby at_33) rfl rfl ?_
        refine XS.iconst X716.here hx rfl (hb hby at_35) ?_
        refine XS.iloadN X716.here hx rfl (hb hby at_36) rfl ?_
        refine XS.sipush X716.here hx rfl (hb hby at_37) ?_
        refine XS.iand X716.here hx rfl (hb hby at_40) rfl ?_
        refine XS.i2c X716.here hx rfl (hb hby at_41) rfl ?_
        exact k
      rw [show (p0_3 &&& (255 : Int32)).toUInt32.toUInt16.toUInt32.toInt32 = (p0_3 &&& (255 : Int32)) from own_i2c _ (own_m255 _)] at k720
      obtain ⟨zc0, hzc0⟩ : ∃ z, z = (p0_3 &&& (255 : Int32)) := ⟨_, rfl⟩
      rw [← hzc0] at k720
      have hr_zc0 : ¬ (zc0 < (0 : Int32)) ∧ ¬ ((255 : Int32) < zc0) := by rw [hzc0]; exact own_m255 _
      obtain ⟨cl721, Ar721, qc721, Sz721, Nn721, Hh721, Gg721⟩ := (id V716)
      have hin721 : ¬ ((0 : Int32) < 0 ∨ cl721.slots.size ≤ ((0 : Int32)).toNatClampNeg) := inb_of Sz721 ⟨by decide, by decide⟩
      obtain ⟨T721, h721, X721, e721, W721, st721⟩ := stC X716 hx hZ e716 Ar721 (j := (0 : Int32)) hin721 (g := (mkF m 42 #[.val (.int p0_0), .val (.int p0_1), .val (.int p0_2), .val (.int p0_3), .val (.int p0_4), .val (.int p0_5), .val (.int (3 : Int32)), .val (.int (2 : Int32)), .unset, .val (.ref b716), .unset, .unset, .unset] [(.int zc0), (.int (0 : Int32)), (.ref b716)])) rfl rfl (hb hby at_42)
      have sf722 := Safe.wr W721 (Safe.arv hZ.alike V716 (by decide)) hCR.1 sf717
      have hCR := hCR.trans (CHr.wr W721 (Safe.arv hZ.alike V716 (by decide)) hCR.1)
      have hk := Nat.le_trans hk (Nat.le_of_eq W721.size.symm)
      have F723 := F718.wr W721
      have F724 := F719.wr W721
      have V721 : Arv Z h721 b716 k716 .char (2 : Int32) [(.int (nar .char zc0)), (.int (0 : Int32))] (.int (0 : Int32)) := Arv.set Ar721 qc721 Sz721 Nn721 Hh721 Gg721 (fits_nar_char _) W721 0 rfl (Nat.le_of_ble_eq_true rfl)
      rw [show nar .char zc0 = zc0 from own_narC _ hr_zc0] at V721
      have N721 := Fr.snoc X721 N0 gg716
      have K721 : Keep h0 h721 [] := K716.wr W721 (Or.inr sz716)
      have Zs721 : n0 ≤ h721.size := by rw [W721.size]; exact Zs716
      have k726 : ∀ t, Steps p.tables e below (T721.setTop (mkF m 61 #[.val (.int p0_0), .val (.int p0_1), .val (.int p0_2), .val (.int p0_3), .val (.int p0_4), .val (.int p0_5), .val (.int (3 : Int32)), .val (.int (2 : Int32)), .unset, .val (.ref b716), .unset, .unset, .unset] [(.int (((p0_3.toUInt32 >>> ((8 : Int32) &&& 31).toUInt32).toInt32) &&& (255 : Int32)).toUInt32.toUInt16.toUInt32.toInt32), (.int (1 : Int32)), (.ref b716)])) t → Steps p.tables e below (s₁.setTop (entryFrame m #[(.int p0_0), (.int p0_1), (.int p0_2), (.int p0_3), (.int p0_4), (.int p0_5)] maxLocals)) t := by
        intro t k
        refine k720 t ?_
        refine st721 _ ?_
        refine XS.iload X721.here hx rfl (hb hby at_43) rfl ?_
        refine XS.iconst X721.here hx rfl (hb hby at_45) ?_
        refine XS.icmpNo X721.here hx rfl (hb hby at_46) rfl (tlt (by decide : (1 : Int32) < (2 : Int32))).2.2.2 ?_
        refine XS.aload X721.here hx rfl (hb hby at_49) rfl rfl ?_
        refine XS.iconst X721.here hx rfl (hb hby at_51) ?_
        refine XS.iloadN X721.here hx rfl (hb hby at_52) rfl ?_
        refine XS.bipush X721.here hx rfl (hb hby at_53) ?_
        refine XS.iushr X721.here hx rfl (hb hby at_55) rfl ?_
        show Steps p.tables e below (T721.setTop (mkF m 56 #[.val (.int p0_0), .val (.int p0_1), .val (.int p0_2), .val (.int p0_3), .val (.int p0_4), .val (.int p0_5), .val (.int (3 : Int32)), .val (.int (2 : Int32)), .unset, .val (.ref b716), .unset, .unset, .unset] [(.int ((p0_3.toUInt32 >>> ((8 : Int32) &&& 31).toUInt32).toInt32)), (.int (1 : Int32)), (.ref b716)])) _
        refine XS.sipush X721.here hx rfl (hb hby at_56) ?_
        refine XS.iand X721.here hx rfl (hb hby at_59) rfl ?_
        refine XS.i2c X721.here hx rfl (hb hby at_60) rfl ?_
        exact k
      rw [show (((p0_3.toUInt32 >>> ((8 : Int32) &&& 31).toUInt32).toInt32) &&& (255 : Int32)).toUInt32.toUInt16.toUInt32.toInt32 = (((p0_3.toUInt32 >>> ((8 : Int32) &&& 31).toUInt32).toInt32) &&& (255 : Int32)) from own_i2c _ (own_m255 _)] at k726
      obtain ⟨zc1, hzc1⟩ : ∃ z, z = (((p0_3.toUInt32 >>> ((8 : Int32) &&& 31).toUInt32).toInt32) &&& (255 : Int32)) := ⟨_, rfl⟩
      rw [← hzc1] at k726
      have hr_zc1 : ¬ (zc1 < (0 : Int32)) ∧ ¬ ((255 : Int32) < zc1) := by rw [hzc1]; exact own_m255 _
      obtain ⟨cl727, Ar727, qc727, Sz727, Nn727, Hh727, Gg727⟩ := (id V721)
      have hin727 : ¬ ((1 : Int32) < 0 ∨ cl727.slots.size ≤ ((1 : Int32)).toNatClampNeg) := inb_of Sz727 ⟨by decide, by decide⟩
      obtain ⟨T727, h727, X727, e727, W727, st727⟩ := stC X721 hx hZ e721 Ar727 (j := (1 : Int32)) hin727 (g := (mkF m 61 #[.val (.int p0_0), .val (.int p0_1), .val (.int p0_2), .val (.int p0_3), .val (.int p0_4), .val (.int p0_5), .val (.int (3 : Int32)), .val (.int (2 : Int32)), .unset, .val (.ref b716), .unset, .unset, .unset] [(.int zc1), (.int (1 : Int32)), (.ref b716)])) rfl rfl (hb hby at_61)
      have sf728 := Safe.wr W727 (Safe.arv hZ.alike V721 (by decide)) hCR.1 sf722
      have hCR := hCR.trans (CHr.wr W727 (Safe.arv hZ.alike V721 (by decide)) hCR.1)
      have hk := Nat.le_trans hk (Nat.le_of_eq W727.size.symm)
      have F729 := F723.wr W727
      have F730 := F724.wr W727
      have V727 : Arv Z h727 b716 k716 .char (2 : Int32) [(.int zc0), (.int (nar .char zc1))] (.int (0 : Int32)) := Arv.set Ar727 qc727 Sz727 Nn727 Hh727 Gg727 (fits_nar_char _) W727 1 rfl (Nat.le_of_ble_eq_true rfl)
      rw [show nar .char zc1 = zc1 from own_narC _ hr_zc1] at V727
      have N727 := Fr.snoc X727 N721 gg716
      have K727 : Keep h0 h727 [] := K721.wr W727 (Or.inr sz716)
      have Zs727 : n0 ≤ h727.size := by rw [W727.size]; exact Zs721
      obtain ⟨b732, g732⟩ : ∃ z, z = h727.size := ⟨_, rfl⟩
      obtain ⟨T732, h732, X732, e732, E732, A732, D732, -, st732⟩ := newO X727 hx hZ hown (wd hw 52 rfl) (wd hw 3 rfl) (wd hw 2 rfl) e727 (g := (mkF m 100 #[.val (.int p0_0), .val (.int p0_1), .val (.int p0_2), .val (.int p0_3), .val (.int p0_4), .val (.int p0_5), .val (.int (3 : Int32)), .val (.int (2 : Int32)), .unset, .val (.ref b716), .unset, .unset, .unset] [])) rfl (hb hby at_100) (by decide) (by decide)
      rw [← g732] at A732 D732 st732
      have ne733 : b716 ≠ b732 := Nat.ne_of_lt (Nat.lt_of_lt_of_le V727.lt (Nat.le_of_eq g732.symm))
      have sfn732 := Safe.new (Z := Z) (EL := consts_1) (vm := s.vm) (Nat.le_of_eq g732.symm)
      have sf734 := Safe.ext E732 hCR.1 sf728
      have sf735 := Safe.ext E732 hCR.1 sfn732
      have hCR := hCR.trans (CHr.ext E732 hCR.1)
      have hk := Nat.le_trans hk E732.1
      have gg732 : n0 ≤ b732 := Nat.le_trans Zs727 (Nat.le_of_eq g732.symm)
      have sz732 : h0.size ≤ b732 := Nat.le_trans K727.1 (Nat.le_of_eq g732.symm)
      have Zs732 : n0 ≤ h732.size := Nat.le_trans Zs727 E732.1
      have K732 : Keep h0 h732 [] := K727.ext E732
      have F736 := F729.ext E732
      have F737 := F730.ext E732
      have F738 := V727.ext E732
      have F739 : Fld Z h732 b732 "java/lang/String" "value" "[B" .null := D732 (Or.inr (wd hw 5 rfl)) (ty := (.array .byte)) (by decide)
      have F740 : Fld Z h732 b732 "java/lang/String" "coder" "B" (.int (0 : Int32)) := D732 (Or.inr (wd hw 6 rfl)) (ty := .byte) (by decide)
      obtain ⟨_, _, ⟨T741, L741, k741, n741⟩, -, X741, ⟨Lc741, hQ741, l741, y741, z741⟩, st741⟩ := X732.specialBack hx (y := (⟨"java/lang/String", "<init>", "([C)V"⟩ : MethodName)) rfl hown (mvT hZ (wd hw 53 rfl)) (mvT hZ (wd hw 54 rfl)) (mvT hZ (wd hw 55 rfl)) (by decide) (StrChars.Road.backV (W := 1) hZ (fun d hd => hw d (own_sub_backV d hd)) (kI := 4) (wd hw 3 rfl) (cs := ([zc0, zc1] : List Int32)) (bs := ([zc0, zc1] : List Int32).map (fun c => c.toInt8.toInt32)) (n := 2) gg732 Zs732 A732 F739 F740 F738 F736 hcs rfl rfl (by decide) (by decide) (own_alS ⟨hr_zc0.1, hr_zc0.2⟩ (own_alS ⟨hr_zc1.1, hr_zc1.2⟩ own_al0)) rfl (by decide) (by decide)) (g := (mkF m 106 #[.val (.int p0_0), .val (.int p0_1), .val (.int p0_2), .val (.int p0_3), .val (.int p0_4), .val (.int p0_5), .val (.int (3 : Int32)), .val (.int (2 : Int32)), .unset, .val (.ref b716), .unset, .unset, .unset] [(.ref b716), (.ref b732), (.ref b732)])) rfl (by rw [hml]; rfl) (Steps.refl _) (a := b732) (argsL := [(.ref b716)]) (rest := [(.ref b732)]) (lenOf pd_13 rfl) rfl (by show 2 * 0 + _ ≤ _; exact Nat.le_of_eq rfl) (hb hby at_106) (fun _ _ => ⟨rfl, e732, (by decide : 2 + 1 ≤ _), (by decide : 6 + 2 ≤ _)⟩)
      dsimp only [Pt.U, Pt.locs, Pt.cells, Pt.slots] at X741 l741 y741 z741 st741 hQ741
      rw [l741, y741, z741] at X741
      obtain ⟨rfl, N741q, Kc741, G741_0, G741_1, t741, kb741, ggt741, szt741, nex741, G741_2, G741_3⟩ := hQ741
      have szz741 : h0.size ≤ t741 := Nat.le_trans K732.1 szt741
      have Zs741 : n0 ≤ T741.heap.size := Nat.le_trans Zs732 Kc741.1
      have K741 : Keep h0 T741.heap [] := K732.trans Kc741 (allS (Or.inr sz732) all0)
      have sf742 := Safe.keep Kc741 (sfS sf735 sf0) hCR.1 sf734
      have sf743 := Safe.keep Kc741 (sfS sf735 sf0) hCR.1 sf735
      have hCR := hCR.trans (CHr.keep Kc741 (sfS sf735 sf0) hCR.1)
      have hk := Nat.le_trans hk Kc741.1
      have F744 := own_stakeep F736 Kc741 (allS (own_nsE A732) all0)
      have F745 := own_stakeep F737 Kc741 (allS (own_nsE A732) all0)
      have F746 := F738.keep Kc741 (ninS ne733 nin0)
      have N741 := Fr.app N727 N741q
      have k747 : ∀ t, Steps p.tables e below (T741.setTop (mkF m 242 #[.val (.int p0_0), .val (.int p0_1), .val (.int p0_2), .val (.int p0_3), .val (.int p0_4), .val (.int p0_5), .val (.int (3 : Int32)), .val (.int (2 : Int32)), .val (.ref b732), .val (.ref b716), .unset, .unset, .unset] [])) t → Steps p.tables e below (s₁.setTop (entryFrame m #[(.int p0_0), (.int p0_1), (.int p0_2), (.int p0_3), (.int p0_4), (.int p0_5)] maxLocals)) t := by
        intro t k
        refine k726 t ?_
        refine st727 _ ?_
        refine XS.iload X727.here hx rfl (hb hby at_62) rfl ?_
        refine XS.iconst X727.here hx rfl (hb hby at_64) ?_
        refine XS.icmpYes X727.here hx rfl (pc0 := 65) (pc' := 81) rfl (hb hby at_65) rfl (flt (by decide : ¬ ((2 : Int32) < (2 : Int32)))).2.2.2 (by decide) (by decide) ?_
        refine XS.iload X727.here hx rfl (hb hby at_81) rfl ?_
        refine XS.iconst X727.here hx rfl (hb hby at_83) ?_
        refine XS.icmpYes X727.here hx rfl (pc0 := 84) (pc' := 100) rfl (hb hby at_84) rfl (flt (by decide : ¬ ((3 : Int32) < (2 : Int32)))).2.2.2 (by decide) (by decide) ?_
        refine st732 _ ?_
        refine XS.dup X732.here hx rfl (hb hby at_103) rfl rfl ?_
        refine XS.aload X732.here hx rfl (hb hby at_104) rfl rfl ?_
        refine st741.trans ?_
        refine XS.astore X741.here hx rfl (hb hby at_109) rfl rfl (l' := #[.val (.int p0_0), .val (.int p0_1), .val (.int p0_2), .val (.int p0_3), .val (.int p0_4), .val (.int p0_5), .val (.int (3 : Int32)), .val (.int (2 : Int32)), .val (.ref b732), .val (.ref b716), .unset, .unset, .unset]) rfl ?_
        refine XS.goto X741.here hx rfl (pc0 := 111) (pc' := 242) rfl (hb hby at_111) (by decide) (by decide) ?_
        exact k
      obtain ⟨t_, o_, ss_, s2_, s3_, v_, L_, hv_, hq_, hf_⟩ := sgs1 hw hEL wS h0 p0_0 p0_1 p0_2 p0_3 p0_4 p0_5 (3 : Int32) (2 : Int32) b732 (.unset) (.unset) b716 (.unset) u_EMPTY u__VALUES cl_u__VALUES u_RESPONSE_TIME u_THROUGHPUT u_COST u_RESPONSE_TIME_column u_RESPONSE_TIME_column_value cl_u_RESPONSE_TIME_column_value u_THROUGHPUT_column u_THROUGHPUT_column_value cl_u_THROUGHPUT_column_value u_COST_column u_COST_column_value cl_u_COST_column_value cs t741 kb741 (2 : Int32) ([zc0, zc1] : List Int32) T741.heap n0 Zs741 S_EMPTY E_u_EMPTY F_u_EMPTY_value S__VALUES E_u__VALUES S_RESPONSE_TIME E_u_RESPONSE_TIME S_THROUGHPUT E_u_THROUGHPUT S_COST E_u_COST F_u_RESPONSE_TIME_column E_u_RESPONSE_TIME_column F_u_RESPONSE_TIME_column_coder F_u_RESPONSE_TIME_column_value F_u_THROUGHPUT_column E_u_THROUGHPUT_column F_u_THROUGHPUT_column_coder F_u_THROUGHPUT_column_value F_u_COST_column E_u_COST_column F_u_COST_column_coder F_u_COST_column_value V_u__VALUES V_u_RESPONSE_TIME_column_value V_u_THROUGHPUT_column_value V_u_COST_column_value K741 F744 G741_0 G741_2 G741_1 G741_3 hcs (Or.inl rfl) rfl (own_alS ⟨hr_zc0.1, hr_zc0.2⟩ (own_alS ⟨hr_zc1.1, hr_zc1.2⟩ own_al0)) (Nat.le_of_ble_eq_true rfl) (X741.more (by decide) (by decide)) hx hZ hby hml hown Bd.returns (by first | assumption | exact BodyLoose.notSynchronized (by assumption) | exact Body.notSynchronized (by assumption)) rfl N741 hh hS hk hCR
      exact ⟨t_, o_, k747 _ ss_, s2_, s3_, v_, L_, hv_, hq_, hf_⟩
    · skip
      obtain ⟨b748, g748⟩ : ∃ z, z = h0.size := ⟨_, rfl⟩
      obtain ⟨T748, h748, k748, X748, e748, E748, A748, st748⟩ := newP X0 hx hZ (wd hw 22 rfl) e0 (g := (mkF m 24 #[.val (.int p0_0), .val (.int p0_1), .val (.int p0_2), .val (.int p0_3), .val (.int p0_4), .val (.int p0_5), .val (.int (3 : Int32)), .val (.int (3 : Int32)), .unset, .unset, .unset, .unset, .unset] [(.int (3 : Int32))])) rfl (hb hby at_24) rfl (by decide) (cap := 3) (by decide) (by decide) (by decide) (by decide)
      rw [← g748] at A748 st748
      have sfn748 := Safe.new (Z := Z) (EL := consts_1) (vm := s.vm) (Nat.le_of_eq g748.symm)
      have sf749 := Safe.ext E748 hCR.1 sfn748
      have hCR := hCR.trans (CHr.ext E748 hCR.1)
      have hk := Nat.le_trans hk E748.1
      have gg748 : n0 ≤ b748 := Nat.le_trans Z0 (Nat.le_of_eq g748.symm)
      have sz748 : h0.size ≤ b748 := Nat.le_trans (Keep.refl h0 []).1 (Nat.le_of_eq g748.symm)
      have Zs748 : n0 ≤ h748.size := Nat.le_trans Z0 E748.1
      have K748 : Keep h0 h748 [] := (Keep.refl h0 []).ext E748
      have F750 := Sc.ext E748
      have F751 := Sf.ext E748
      have V748 : Arv Z h748 b748 k748 .char (3 : Int32) [(.int (0 : Int32)), (.int (0 : Int32)), (.int (0 : Int32))] (.int (0 : Int32)) := (Arv.new A748 (by decide)).pad (pad_rep [] (.int (0 : Int32)) 3)
      have k752 : ∀ t, Steps p.tables e below (T748.setTop (mkF m 42 #[.val (.int p0_0), .val (.int p0_1), .val (.int p0_2), .val (.int p0_3), .val (.int p0_4), .val (.int p0_5), .val (.int (3 : Int32)), .val (.int (3 : Int32)), .unset, .val (.ref b748), .unset, .unset, .unset] [(.int (p0_3 &&& (255 : Int32)).toUInt32.toUInt16.toUInt32.toInt32), (.int (0 : Int32)), (.ref b748)])) t → Steps p.tables e below (s₁.setTop (entryFrame m #[(.int p0_0), (.int p0_1), (.int p0_2), (.int p0_3), (.int p0_4), (.int p0_5)] maxLocals)) t := by
        intro t k
        refine k1 t ?_
        refine XS.iload X0.here hx rfl (hb hby at_16) rfl ?_
        refine XS.iconst X0.here hx rfl (hb hby at_18) ?_
        refine XS.icmpNo X0.here hx rfl (hb hby at_19) rfl (teq (by decide : (3 : Int32) = (3 : Int32))).2 ?_
        refine XS.iload X0.here hx rfl (hb hby at_22) rfl ?_
        refine st748 _ ?_
        show Steps p.tables e below (T748.setTop (mkF m 26 #[.val (.int p0_0), .val (.int p0_1), .val (.int p0_2), .val (.int p0_3), .val (.int p0_4), .val (.int p0_5), .val (.int (3 : Int32)), .val (.int (3 : Int32)), .unset, .unset, .unset, .unset, .unset] [(.ref b748)])) _
        refine XS.astore X748.here hx rfl (hb hby at_26) rfl rfl (l' := #[.val (.int p0_0), .val (.int p0_1), .val (.int p0_2), .val (.int p0_3), .val (.int p0_4), .val (.int p0_5), .val (.int (3 : Int32)), .val (.int (3 : Int32)), .unset, .val (.ref b748), .unset, .unset, .unset]) rfl ?_
        refine XS.iload X748.here hx rfl (hb hby at_28) rfl ?_
        refine XS.ifNo X748.here hx rfl (hb hby at_30) rfl ((if0 _ _).trans (tlt (by decide : (0 : Int32) < (3 : Int32))).2.2.2) ?_
        refine XS.aload X748.here hx rfl (hb hby at_33) rfl rfl ?_
        refine XS.iconst X748.here hx rfl (hb hby at_35) ?_
        refine XS.iloadN X748.here hx rfl (hb hby at_36) rfl ?_
        refine XS.sipush X748.here hx rfl (hb hby at_37) ?_
        refine XS.iand X748.here hx rfl (hb hby at_40) rfl ?_
        refine XS.i2c X748.here hx rfl (hb hby at_41) rfl ?_
        exact k
      rw [show (p0_3 &&& (255 : Int32)).toUInt32.toUInt16.toUInt32.toInt32 = (p0_3 &&& (255 : Int32)) from own_i2c _ (own_m255 _)] at k752
      obtain ⟨zc0, hzc0⟩ : ∃ z, z = (p0_3 &&& (255 : Int32)) := ⟨_, rfl⟩
      rw [← hzc0] at k752
      have hr_zc0 : ¬ (zc0 < (0 : Int32)) ∧ ¬ ((255 : Int32) < zc0) := by rw [hzc0]; exact own_m255 _
      obtain ⟨cl753, Ar753, qc753, Sz753, Nn753, Hh753, Gg753⟩ := (id V748)
      have hin753 : ¬ ((0 : Int32) < 0 ∨ cl753.slots.size ≤ ((0 : Int32)).toNatClampNeg) := inb_of Sz753 ⟨by decide, by decide⟩
      obtain ⟨T753, h753, X753, e753, W753, st753⟩ := stC X748 hx hZ e748 Ar753 (j := (0 : Int32)) hin753 (g := (mkF m 42 #[.val (.int p0_0), .val (.int p0_1), .val (.int p0_2), .val (.int p0_3), .val (.int p0_4), .val (.int p0_5), .val (.int (3 : Int32)), .val (.int (3 : Int32)), .unset, .val (.ref b748), .unset, .unset, .unset] [(.int zc0), (.int (0 : Int32)), (.ref b748)])) rfl rfl (hb hby at_42)
      have sf754 := Safe.wr W753 (Safe.arv hZ.alike V748 (by decide)) hCR.1 sf749
      have hCR := hCR.trans (CHr.wr W753 (Safe.arv hZ.alike V748 (by decide)) hCR.1)
      have hk := Nat.le_trans hk (Nat.le_of_eq W753.size.symm)
      have F755 := F750.wr W753
      have F756 := F751.wr W753
      have V753 : Arv Z h753 b748 k748 .char (3 : Int32) [(.int (nar .char zc0)), (.int (0 : Int32)), (.int (0 : Int32))] (.int (0 : Int32)) := Arv.set Ar753 qc753 Sz753 Nn753 Hh753 Gg753 (fits_nar_char _) W753 0 rfl (Nat.le_of_ble_eq_true rfl)
      rw [show nar .char zc0 = zc0 from own_narC _ hr_zc0] at V753
      have N753 := Fr.snoc X753 N0 gg748
      have K753 : Keep h0 h753 [] := K748.wr W753 (Or.inr sz748)
      have Zs753 : n0 ≤ h753.size := by rw [W753.size]; exact Zs748
      have k758 : ∀ t, Steps p.tables e below (T753.setTop (mkF m 61 #[.val (.int p0_0), .val (.int p0_1), .val (.int p0_2), .val (.int p0_3), .val (.int p0_4), .val (.int p0_5), .val (.int (3 : Int32)), .val (.int (3 : Int32)), .unset, .val (.ref b748), .unset, .unset, .unset] [(.int (((p0_3.toUInt32 >>> ((8 : Int32) &&& 31).toUInt32).toInt32) &&& (255 : Int32)).toUInt32.toUInt16.toUInt32.toInt32), (.int (1 : Int32)), (.ref b748)])) t → Steps p.tables e below (s₁.setTop (entryFrame m #[(.int p0_0), (.int p0_1), (.int p0_2), (.int p0_3), (.int p0_4), (.int p0_5)] maxLocals)) t := by
        intro t k
        refine k752 t ?_
        refine st753 _ ?_
        refine XS.iload X753.here hx rfl (hb hby at_43) rfl ?_
        refine XS.iconst X753.here hx rfl (hb hby at_45) ?_
        refine XS.icmpNo X753.here hx rfl (hb hby at_46) rfl (tlt (by decide : (1 : Int32) < (3 : Int32))).2.2.2 ?_
        refine XS.aload X753.here hx rfl (hb hby at_49) rfl rfl ?_
        refine XS.iconst X753.here hx rfl (hb hby at_51) ?_
        refine XS.iloadN X753.here hx rfl (hb hby at_52) rfl ?_
        refine XS.bipush X753.here hx rfl (hb hby at_53) ?_
        refine XS.iushr X753.here hx rfl (hb hby at_55) rfl ?_
        show Steps p.tables e below (T753.setTop (mkF m 56 #[.val (.int p0_0), .val (.int p0_1), .val (.int p0_2), .val (.int p0_3), .val (.int p0_4), .val (.int p0_5), .val (.int (3 : Int32)), .val (.int (3 : Int32)), .unset, .val (.ref b748), .unset, .unset, .unset] [(.int ((p0_3.toUInt32 >>> ((8 : Int32) &&& 31).toUInt32).toInt32)), (.int (1 : Int32)), (.ref b748)])) _
        refine XS.sipush X753.here hx rfl (hb hby at_56) ?_
        refine XS.iand X753.here hx rfl (hb hby at_59) rfl ?_
        refine XS.i2c X753.here hx rfl (hb hby at_60) rfl ?_
        exact k
      rw [show (((p0_3.toUInt32 >>> ((8 : Int32) &&& 31).toUInt32).toInt32) &&& (255 : Int32)).toUInt32.toUInt16.toUInt32.toInt32 = (((p0_3.toUInt32 >>> ((8 : Int32) &&& 31).toUInt32).toInt32) &&& (255 : Int32)) from own_i2c _ (own_m255 _)] at k758
      obtain ⟨zc1, hzc1⟩ : ∃ z, z = (((p0_3.toUInt32 >>> ((8 : Int32) &&& 31).toUInt32).toInt32) &&& (255 : Int32)) := ⟨_, rfl⟩
      rw [← hzc1] at k758
      have hr_zc1 : ¬ (zc1 < (0 : Int32)) ∧ ¬ ((255 : Int32) < zc1) := by rw [hzc1]; exact own_m255 _
      obtain ⟨cl759, Ar759, qc759, Sz759, Nn759, Hh759, Gg759⟩ := (id V753)
      have hin759 : ¬ ((1 : Int32) < 0 ∨ cl759.slots.size ≤ ((1 : Int32)).toNatClampNeg) := inb_of Sz759 ⟨by decide, by decide⟩
      obtain ⟨T759, h759, X759, e759, W759, st759⟩ := stC X753 hx hZ e753 Ar759 (j := (1 : Int32)) hin759 (g := (mkF m 61 #[.val (.int p0_0), .val (.int p0_1), .val (.int p0_2), .val (.int p0_3), .val (.int p0_4), .val (.int p0_5), .val (.int (3 : Int32)), .val (.int (3 : Int32)), .unset, .val (.ref b748), .unset, .unset, .unset] [(.int zc1), (.int (1 : Int32)), (.ref b748)])) rfl rfl (hb hby at_61)
      have sf760 := Safe.wr W759 (Safe.arv hZ.alike V753 (by decide)) hCR.1 sf754
      have hCR := hCR.trans (CHr.wr W759 (Safe.arv hZ.alike V753 (by decide)) hCR.1)
      have hk := Nat.le_trans hk (Nat.le_of_eq W759.size.symm)
      have F761 := F755.wr W759
      have F762 := F756.wr W759
      have V759 : Arv Z h759 b748 k748 .char (3 : Int32) [(.int zc0), (.int (nar .char zc1)), (.int (0 : Int32))] (.int (0 : Int32)) := Arv.set Ar759 qc759 Sz759 Nn759 Hh759 Gg759 (fits_nar_char _) W759 1 rfl (Nat.le_of_ble_eq_true rfl)
      rw [show nar .char zc1 = zc1 from own_narC _ hr_zc1] at V759
      have N759 := Fr.snoc X759 N753 gg748
      have K759 : Keep h0 h759 [] := K753.wr W759 (Or.inr sz748)
      have Zs759 : n0 ≤ h759.size := by rw [W759.size]; exact Zs753
      have k764 : ∀ t, Steps p.tables e below (T759.setTop (mkF m 80 #[.val (.int p0_0), .val (.int p0_1), .val (.int p0_2), .val (.int p0_3), .val (.int p0_4), .val (.int p0_5), .val (.int (3 : Int32)), .val (.int (3 : Int32)), .unset, .val (.ref b748), .unset, .unset, .unset] [(.int (((p0_3.toUInt32 >>> ((16 : Int32) &&& 31).toUInt32).toInt32) &&& (255 : Int32)).toUInt32.toUInt16.toUInt32.toInt32), (.int (2 : Int32)), (.ref b748)])) t → Steps p.tables e below (s₁.setTop (entryFrame m #[(.int p0_0), (.int p0_1), (.int p0_2), (.int p0_3), (.int p0_4), (.int p0_5)] maxLocals)) t := by
        intro t k
        refine k758 t ?_
        refine st759 _ ?_
        refine XS.iload X759.here hx rfl (hb hby at_62) rfl ?_
        refine XS.iconst X759.here hx rfl (hb hby at_64) ?_
        refine XS.icmpNo X759.here hx rfl (hb hby at_65) rfl (tlt (by decide : (2 : Int32) < (3 : Int32))).2.2.2 ?_
        refine XS.aload X759.here hx rfl (hb hby at_68) rfl rfl ?_
        refine XS.iconst X759.here hx rfl (hb hby at_70) ?_
        refine XS.iloadN X759.here hx rfl (hb hby at_71) rfl ?_
        refine XS.bipush X759.here hx rfl (hb hby at_72) ?_
        refine XS.iushr X759.here hx rfl (hb hby at_74) rfl ?_
        refine XS.sipush X759.here hx rfl (hb hby at_75) ?_
        refine XS.iand X759.here hx rfl (hb hby at_78) rfl ?_
        refine XS.i2c X759.here hx rfl (hb hby at_79) rfl ?_
        exact k
      rw [show (((p0_3.toUInt32 >>> ((16 : Int32) &&& 31).toUInt32).toInt32) &&& (255 : Int32)).toUInt32.toUInt16.toUInt32.toInt32 = (((p0_3.toUInt32 >>> ((16 : Int32) &&& 31).toUInt32).toInt32) &&& (255 : Int32)) from own_i2c _ (own_m255 _)] at k764
      obtain ⟨zc2, hzc2⟩ : ∃ z, z = (((p0_3.toUInt32 >>> ((16 : Int32) &&& 31).toUInt32).toInt32) &&& (255 : Int32)) := ⟨_, rfl⟩
      rw [← hzc2] at k764
      have hr_zc2 : ¬ (zc2 < (0 : Int32)) ∧ ¬ ((255 : Int32) < zc2) := by rw [hzc2]; exact own_m255 _
      obtain ⟨cl765, Ar765, qc765, Sz765, Nn765, Hh765, Gg765⟩ := (id V759)
      have hin765 : ¬ ((2 : Int32) < 0 ∨ cl765.slots.size ≤ ((2 : Int32)).toNatClampNeg) := inb_of Sz765 ⟨by decide, by decide⟩
      obtain ⟨T765, h765, X765, e765, W765, st765⟩ := stC X759 hx hZ e759 Ar765 (j := (2 : Int32)) hin765 (g := (mkF m 80 #[.val (.int p0_0), .val (.int p0_1), .val (.int p0_2), .val (.int p0_3), .val (.int p0_4), .val (.int p0_5), .val (.int (3 : Int32)), .val (.int (3 : Int32)), .unset, .val (.ref b748), .unset, .unset, .unset] [(.int zc2), (.int (2 : Int32)), (.ref b748)])) rfl rfl (hb hby at_80)
      have sf766 := Safe.wr W765 (Safe.arv hZ.alike V759 (by decide)) hCR.1 sf760
      have hCR := hCR.trans (CHr.wr W765 (Safe.arv hZ.alike V759 (by decide)) hCR.1)
      have hk := Nat.le_trans hk (Nat.le_of_eq W765.size.symm)
      have F767 := F761.wr W765
      have F768 := F762.wr W765
      have V765 : Arv Z h765 b748 k748 .char (3 : Int32) [(.int zc0), (.int zc1), (.int (nar .char zc2))] (.int (0 : Int32)) := Arv.set Ar765 qc765 Sz765 Nn765 Hh765 Gg765 (fits_nar_char _) W765 2 rfl (Nat.le_of_ble_eq_true rfl)
      rw [show nar .char zc2 = zc2 from own_narC _ hr_zc2] at V765
      have N765 := Fr.snoc X765 N759 gg748
      have K765 : Keep h0 h765 [] := K759.wr W765 (Or.inr sz748)
      have Zs765 : n0 ≤ h765.size := by rw [W765.size]; exact Zs759
      obtain ⟨b770, g770⟩ : ∃ z, z = h765.size := ⟨_, rfl⟩
      obtain ⟨T770, h770, X770, e770, E770, A770, D770, -, st770⟩ := newO X765 hx hZ hown (wd hw 52 rfl) (wd hw 3 rfl) (wd hw 2 rfl) e765 (g := (mkF m 100 #[.val (.int p0_0), .val (.int p0_1), .val (.int p0_2), .val (.int p0_3), .val (.int p0_4), .val (.int p0_5), .val (.int (3 : Int32)), .val (.int (3 : Int32)), .unset, .val (.ref b748), .unset, .unset, .unset] [])) rfl (hb hby at_100) (by decide) (by decide)
      rw [← g770] at A770 D770 st770
      have ne771 : b748 ≠ b770 := Nat.ne_of_lt (Nat.lt_of_lt_of_le V765.lt (Nat.le_of_eq g770.symm))
      have sfn770 := Safe.new (Z := Z) (EL := consts_1) (vm := s.vm) (Nat.le_of_eq g770.symm)
      have sf772 := Safe.ext E770 hCR.1 sf766
      have sf773 := Safe.ext E770 hCR.1 sfn770
      have hCR := hCR.trans (CHr.ext E770 hCR.1)
      have hk := Nat.le_trans hk E770.1
      have gg770 : n0 ≤ b770 := Nat.le_trans Zs765 (Nat.le_of_eq g770.symm)
      have sz770 : h0.size ≤ b770 := Nat.le_trans K765.1 (Nat.le_of_eq g770.symm)
      have Zs770 : n0 ≤ h770.size := Nat.le_trans Zs765 E770.1
      have K770 : Keep h0 h770 [] := K765.ext E770
      have F774 := F767.ext E770
      have F775 := F768.ext E770
      have F776 := V765.ext E770
      have F777 : Fld Z h770 b770 "java/lang/String" "value" "[B" .null := D770 (Or.inr (wd hw 5 rfl)) (ty := (.array .byte)) (by decide)
      have F778 : Fld Z h770 b770 "java/lang/String" "coder" "B" (.int (0 : Int32)) := D770 (Or.inr (wd hw 6 rfl)) (ty := .byte) (by decide)
      obtain ⟨_, _, ⟨T779, L779, k779, n779⟩, -, X779, ⟨Lc779, hQ779, l779, y779, z779⟩, st779⟩ := X770.specialBack hx (y := (⟨"java/lang/String", "<init>", "([C)V"⟩ : MethodName)) rfl hown (mvT hZ (wd hw 53 rfl)) (mvT hZ (wd hw 54 rfl)) (mvT hZ (wd hw 55 rfl)) (by decide) (StrChars.Road.backV (W := 1) hZ (fun d hd => hw d (own_sub_backV d hd)) (kI := 4) (wd hw 3 rfl) (cs := ([zc0, zc1, zc2] : List Int32)) (bs := ([zc0, zc1, zc2] : List Int32).map (fun c => c.toInt8.toInt32)) (n := 3) gg770 Zs770 A770 F777 F778 F776 F774 hcs rfl rfl (by decide) (by decide) (own_alS ⟨hr_zc0.1, hr_zc0.2⟩ (own_alS ⟨hr_zc1.1, hr_zc1.2⟩ (own_alS ⟨hr_zc2.1, hr_zc2.2⟩ own_al0))) rfl (by decide) (by decide)) (g := (mkF m 106 #[.val (.int p0_0), .val (.int p0_1), .val (.int p0_2), .val (.int p0_3), .val (.int p0_4), .val (.int p0_5), .val (.int (3 : Int32)), .val (.int (3 : Int32)), .unset, .val (.ref b748), .unset, .unset, .unset] [(.ref b748), (.ref b770), (.ref b770)])) rfl (by rw [hml]; rfl) (Steps.refl _) (a := b770) (argsL := [(.ref b748)]) (rest := [(.ref b770)]) (lenOf pd_13 rfl) rfl (by show 2 * 0 + _ ≤ _; exact Nat.le_of_eq rfl) (hb hby at_106) (fun _ _ => ⟨rfl, e770, (by decide : 2 + 1 ≤ _), (by decide : 7 + 3 ≤ _)⟩)
      dsimp only [Pt.U, Pt.locs, Pt.cells, Pt.slots] at X779 l779 y779 z779 st779 hQ779
      rw [l779, y779, z779] at X779
      obtain ⟨rfl, N779q, Kc779, G779_0, G779_1, t779, kb779, ggt779, szt779, nex779, G779_2, G779_3⟩ := hQ779
      have szz779 : h0.size ≤ t779 := Nat.le_trans K770.1 szt779
      have Zs779 : n0 ≤ T779.heap.size := Nat.le_trans Zs770 Kc779.1
      have K779 : Keep h0 T779.heap [] := K770.trans Kc779 (allS (Or.inr sz770) all0)
      have sf780 := Safe.keep Kc779 (sfS sf773 sf0) hCR.1 sf772
      have sf781 := Safe.keep Kc779 (sfS sf773 sf0) hCR.1 sf773
      have hCR := hCR.trans (CHr.keep Kc779 (sfS sf773 sf0) hCR.1)
      have hk := Nat.le_trans hk Kc779.1
      have F782 := own_stakeep F774 Kc779 (allS (own_nsE A770) all0)
      have F783 := own_stakeep F775 Kc779 (allS (own_nsE A770) all0)
      have F784 := F776.keep Kc779 (ninS ne771 nin0)
      have N779 := Fr.app N765 N779q
      have k785 : ∀ t, Steps p.tables e below (T779.setTop (mkF m 242 #[.val (.int p0_0), .val (.int p0_1), .val (.int p0_2), .val (.int p0_3), .val (.int p0_4), .val (.int p0_5), .val (.int (3 : Int32)), .val (.int (3 : Int32)), .val (.ref b770), .val (.ref b748), .unset, .unset, .unset] [])) t → Steps p.tables e below (s₁.setTop (entryFrame m #[(.int p0_0), (.int p0_1), (.int p0_2), (.int p0_3), (.int p0_4), (.int p0_5)] maxLocals)) t := by
        intro t k
        refine k764 t ?_
        refine st765 _ ?_
        refine XS.iload X765.here hx rfl (hb hby at_81) rfl ?_
        refine XS.iconst X765.here hx rfl (hb hby at_83) ?_
        show Steps p.tables e below (T765.setTop (mkF m 84 #[.val (.int p0_0), .val (.int p0_1), .val (.int p0_2), .val (.int p0_3), .val (.int p0_4), .val (.int p0_5), .val (.int (3 : Int32)), .val (.int (3 : Int32)), .unset, .val (.ref b748), .unset, .unset, .unset] [(.int (3 : Int32)), (.int (3 : Int32))])) _
        refine XS.icmpYes X765.here hx rfl (pc0 := 84) (pc' := 100) rfl (hb hby at_84) rfl (flt (by decide : ¬ ((3 : Int32) < (3 : Int32)))).2.2.2 (by decide) (by decide) ?_
        refine st770 _ ?_
        refine XS.dup X770.here hx rfl (hb hby at_103) rfl rfl ?_
        refine XS.aload X770.here hx rfl (hb hby at_104) rfl rfl ?_
        refine st779.trans ?_
        refine XS.astore X779.here hx rfl (hb hby at_109) rfl rfl (l' := #[.val (.int p0_0), .val (.int p0_1), .val (.int p0_2), .val (.int p0_3), .val (.int p0_4), .val (.int p0_5), .val (.int (3 : Int32)), .val (.int (3 : Int32)), .val (.ref b770), .val (.ref b748), .unset, .unset, .unset]) rfl ?_
        refine XS.goto X779.here hx rfl (pc0 := 111) (pc' := 242) rfl (hb hby at_111) (by decide) (by decide) ?_
        exact k
      obtain ⟨t_, o_, ss_, s2_, s3_, v_, L_, hv_, hq_, hf_⟩ := sgs1 hw hEL wS h0 p0_0 p0_1 p0_2 p0_3 p0_4 p0_5 (3 : Int32) (3 : Int32) b770 (.unset) (.unset) b748 (.unset) u_EMPTY u__VALUES cl_u__VALUES u_RESPONSE_TIME u_THROUGHPUT u_COST u_RESPONSE_TIME_column u_RESPONSE_TIME_column_value cl_u_RESPONSE_TIME_column_value u_THROUGHPUT_column u_THROUGHPUT_column_value cl_u_THROUGHPUT_column_value u_COST_column u_COST_column_value cl_u_COST_column_value cs t779 kb779 (3 : Int32) ([zc0, zc1, zc2] : List Int32) T779.heap n0 Zs779 S_EMPTY E_u_EMPTY F_u_EMPTY_value S__VALUES E_u__VALUES S_RESPONSE_TIME E_u_RESPONSE_TIME S_THROUGHPUT E_u_THROUGHPUT S_COST E_u_COST F_u_RESPONSE_TIME_column E_u_RESPONSE_TIME_column F_u_RESPONSE_TIME_column_coder F_u_RESPONSE_TIME_column_value F_u_THROUGHPUT_column E_u_THROUGHPUT_column F_u_THROUGHPUT_column_coder F_u_THROUGHPUT_column_value F_u_COST_column E_u_COST_column F_u_COST_column_coder F_u_COST_column_value V_u__VALUES V_u_RESPONSE_TIME_column_value V_u_THROUGHPUT_column_value V_u_COST_column_value K779 F782 G779_0 G779_2 G779_1 G779_3 hcs (Or.inl rfl) rfl (own_alS ⟨hr_zc0.1, hr_zc0.2⟩ (own_alS ⟨hr_zc1.1, hr_zc1.2⟩ (own_alS ⟨hr_zc2.1, hr_zc2.2⟩ own_al0))) (Nat.le_of_ble_eq_true rfl) (X779.more (by decide) (by decide)) hx hZ hby hml hown Bd.returns (by first | assumption | exact BodyLoose.notSynchronized (by assumption) | exact Body.notSynchronized (by assumption)) rfl N779 hh hS hk hCR
      exact ⟨t_, o_, k785 _ ss_, s2_, s3_, v_, L_, hv_, hq_, hf_⟩
    · skip
      obtain ⟨b786, g786⟩ : ∃ z, z = h0.size := ⟨_, rfl⟩
      obtain ⟨T786, h786, k786, X786, e786, E786, A786, st786⟩ := newP X0 hx hZ (wd hw 22 rfl) e0 (g := (mkF m 24 #[.val (.int p0_0), .val (.int p0_1), .val (.int p0_2), .val (.int p0_3), .val (.int p0_4), .val (.int p0_5), .val (.int (3 : Int32)), .val (.int (4 : Int32)), .unset, .unset, .unset, .unset, .unset] [(.int (4 : Int32))])) rfl (hb hby at_24) rfl (by decide) (cap := 4) (by decide) (by decide) (by decide) (by decide)
      rw [← g786] at A786 st786
      have sfn786 := Safe.new (Z := Z) (EL := consts_1) (vm := s.vm) (Nat.le_of_eq g786.symm)
      have sf787 := Safe.ext E786 hCR.1 sfn786
      have hCR := hCR.trans (CHr.ext E786 hCR.1)
      have hk := Nat.le_trans hk E786.1
      have gg786 : n0 ≤ b786 := Nat.le_trans Z0 (Nat.le_of_eq g786.symm)
      have sz786 : h0.size ≤ b786 := Nat.le_trans (Keep.refl h0 []).1 (Nat.le_of_eq g786.symm)
      have Zs786 : n0 ≤ h786.size := Nat.le_trans Z0 E786.1
      have K786 : Keep h0 h786 [] := (Keep.refl h0 []).ext E786
      have F788 := Sc.ext E786
      have F789 := Sf.ext E786
      have V786 : Arv Z h786 b786 k786 .char (4 : Int32) [(.int (0 : Int32)), (.int (0 : Int32)), (.int (0 : Int32)), (.int (0 : Int32))] (.int (0 : Int32)) := (Arv.new A786 (by decide)).pad (pad_rep [] (.int (0 : Int32)) 4)
      have k790 : ∀ t, Steps p.tables e below (T786.setTop (mkF m 42 #[.val (.int p0_0), .val (.int p0_1), .val (.int p0_2), .val (.int p0_3), .val (.int p0_4), .val (.int p0_5), .val (.int (3 : Int32)), .val (.int (4 : Int32)), .unset, .val (.ref b786), .unset, .unset, .unset] [(.int (p0_3 &&& (255 : Int32)).toUInt32.toUInt16.toUInt32.toInt32), (.int (0 : Int32)), (.ref b786)])) t → Steps p.tables e below (s₁.setTop (entryFrame m #[(.int p0_0), (.int p0_1), (.int p0_2), (.int p0_3), (.int p0_4), (.int p0_5)] maxLocals)) t := by
        intro t k
        refine k1 t ?_
        refine XS.iload X0.here hx rfl (hb hby at_16) rfl ?_
        refine XS.iconst X0.here hx rfl (hb hby at_18) ?_
        refine XS.icmpNo X0.here hx rfl (hb hby at_19) rfl (teq (by decide : (3 : Int32) = (3 : Int32))).2 ?_
        refine XS.iload X0.here hx rfl (hb hby at_22) rfl ?_
        refine st786 _ ?_
        show Steps p.tables e below (T786.setTop (mkF m 26 #[.val (.int p0_0), .val (.int p0_1), .val (.int p0_2), .val (.int p0_3), .val (.int p0_4), .val (.int p0_5), .val (.int (3 : Int32)), .val (.int (4 : Int32)), .unset, .unset, .unset, .unset, .unset] [(.ref b786)])) _
        refine XS.astore X786.here hx rfl (hb hby at_26) rfl rfl (l' := #[.val (.int p0_0), .val (.int p0_1), .val (.int p0_2), .val (.int p0_3), .val (.int p0_4), .val (.int p0_5), .val (.int (3 : Int32)), .val (.int (4 : Int32)), .unset, .val (.ref b786), .unset, .unset, .unset]) rfl ?_
        refine XS.iload X786.here hx rfl (hb hby at_28) rfl ?_
        refine XS.ifNo X786.here hx rfl (hb hby at_30) rfl ((if0 _ _).trans (tlt (by decide : (0 : Int32) < (4 : Int32))).2.2.2) ?_
        refine XS.aload X786.here hx rfl (hb hby at_33) rfl rfl ?_
        refine XS.iconst X786.here hx rfl (hb hby at_35) ?_
        refine XS.iloadN X786.here hx rfl (hb hby at_36) rfl ?_
        refine XS.sipush X786.here hx rfl (hb hby at_37) ?_
        refine XS.iand X786.here hx rfl (hb hby at_40) rfl ?_
        refine XS.i2c X786.here hx rfl (hb hby at_41) rfl ?_
        exact k
      rw [show (p0_3 &&& (255 : Int32)).toUInt32.toUInt16.toUInt32.toInt32 = (p0_3 &&& (255 : Int32)) from own_i2c _ (own_m255 _)] at k790
      obtain ⟨zc0, hzc0⟩ : ∃ z, z = (p0_3 &&& (255 : Int32)) := ⟨_, rfl⟩
      rw [← hzc0] at k790
      have hr_zc0 : ¬ (zc0 < (0 : Int32)) ∧ ¬ ((255 : Int32) < zc0) := by rw [hzc0]; exact own_m255 _
      obtain ⟨cl791, Ar791, qc791, Sz791, Nn791, Hh791, Gg791⟩ := (id V786)
      have hin791 : ¬ ((0 : Int32) < 0 ∨ cl791.slots.size ≤ ((0 : Int32)).toNatClampNeg) := inb_of Sz791 ⟨by decide, by decide⟩
      obtain ⟨T791, h791, X791, e791, W791, st791⟩ := stC X786 hx hZ e786 Ar791 (j := (0 : Int32)) hin791 (g := (mkF m 42 #[.val (.int p0_0), .val (.int p0_1), .val (.int p0_2), .val (.int p0_3), .val (.int p0_4), .val (.int p0_5), .val (.int (3 : Int32)), .val (.int (4 : Int32)), .unset, .val (.ref b786), .unset, .unset, .unset] [(.int zc0), (.int (0 : Int32)), (.ref b786)])) rfl rfl (hb hby at_42)
      have sf792 := Safe.wr W791 (Safe.arv hZ.alike V786 (by decide)) hCR.1 sf787
      have hCR := hCR.trans (CHr.wr W791 (Safe.arv hZ.alike V786 (by decide)) hCR.1)
      have hk := Nat.le_trans hk (Nat.le_of_eq W791.size.symm)
      have F793 := F788.wr W791
      have F794 := F789.wr W791
      have V791 : Arv Z h791 b786 k786 .char (4 : Int32) [(.int (nar .char zc0)), (.int (0 : Int32)), (.int (0 : Int32)), (.int (0 : Int32))] (.int (0 : Int32)) := Arv.set Ar791 qc791 Sz791 Nn791 Hh791 Gg791 (fits_nar_char _) W791 0 rfl (Nat.le_of_ble_eq_true rfl)
      rw [show nar .char zc0 = zc0 from own_narC _ hr_zc0] at V791
      have N791 := Fr.snoc X791 N0 gg786
      have K791 : Keep h0 h791 [] := K786.wr W791 (Or.inr sz786)
      have Zs791 : n0 ≤ h791.size := by rw [W791.size]; exact Zs786
      have k796 : ∀ t, Steps p.tables e below (T791.setTop (mkF m 61 #[.val (.int p0_0), .val (.int p0_1), .val (.int p0_2), .val (.int p0_3), .val (.int p0_4), .val (.int p0_5), .val (.int (3 : Int32)), .val (.int (4 : Int32)), .unset, .val (.ref b786), .unset, .unset, .unset] [(.int (((p0_3.toUInt32 >>> ((8 : Int32) &&& 31).toUInt32).toInt32) &&& (255 : Int32)).toUInt32.toUInt16.toUInt32.toInt32), (.int (1 : Int32)), (.ref b786)])) t → Steps p.tables e below (s₁.setTop (entryFrame m #[(.int p0_0), (.int p0_1), (.int p0_2), (.int p0_3), (.int p0_4), (.int p0_5)] maxLocals)) t := by
        intro t k
        refine k790 t ?_
        refine st791 _ ?_
        refine XS.iload X791.here hx rfl (hb hby at_43) rfl ?_
        refine XS.iconst X791.here hx rfl (hb hby at_45) ?_
        refine XS.icmpNo X791.here hx rfl (hb hby at_46) rfl (tlt (by decide : (1 : Int32) < (4 : Int32))).2.2.2 ?_
        refine XS.aload X791.here hx rfl (hb hby at_49) rfl rfl ?_
        refine XS.iconst X791.here hx rfl (hb hby at_51) ?_
        refine XS.iloadN X791.here hx rfl (hb hby at_52) rfl ?_
        refine XS.bipush X791.here hx rfl (hb hby at_53) ?_
        refine XS.iushr X791.here hx rfl (hb hby at_55) rfl ?_
        show Steps p.tables e below (T791.setTop (mkF m 56 #[.val (.int p0_0), .val (.int p0_1), .val (.int p0_2), .val (.int p0_3), .val (.int p0_4), .val (.int p0_5), .val (.int (3 : Int32)), .val (.int (4 : Int32)), .unset, .val (.ref b786), .unset, .unset, .unset] [(.int ((p0_3.toUInt32 >>> ((8 : Int32) &&& 31).toUInt32).toInt32)), (.int (1 : Int32)), (.ref b786)])) _
        refine XS.sipush X791.here hx rfl (hb hby at_56) ?_
        refine XS.iand X791.here hx rfl (hb hby at_59) rfl ?_
        refine XS.i2c X791.here hx rfl (hb hby at_60) rfl ?_
        exact k
      rw [show (((p0_3.toUInt32 >>> ((8 : Int32) &&& 31).toUInt32).toInt32) &&& (255 : Int32)).toUInt32.toUInt16.toUInt32.toInt32 = (((p0_3.toUInt32 >>> ((8 : Int32) &&& 31).toUInt32).toInt32) &&& (255 : Int32)) from own_i2c _ (own_m255 _)] at k796
      obtain ⟨zc1, hzc1⟩ : ∃ z, z = (((p0_3.toUInt32 >>> ((8 : Int32) &&& 31).toUInt32).toInt32) &&& (255 : Int32)) := ⟨_, rfl⟩
      rw [← hzc1] at k796
      have hr_zc1 : ¬ (zc1 < (0 : Int32)) ∧ ¬ ((255 : Int32) < zc1) := by rw [hzc1]; exact own_m255 _
      obtain ⟨cl797, Ar797, qc797, Sz797, Nn797, Hh797, Gg797⟩ := (id V791)
      have hin797 : ¬ ((1 : Int32) < 0 ∨ cl797.slots.size ≤ ((1 : Int32)).toNatClampNeg) := inb_of Sz797 ⟨by decide, by decide⟩
      obtain ⟨T797, h797, X797, e797, W797, st797⟩ := stC X791 hx hZ e791 Ar797 (j := (1 : Int32)) hin797 (g := (mkF m 61 #[.val (.int p0_0), .val (.int p0_1), .val (.int p0_2), .val (.int p0_3), .val (.int p0_4), .val (.int p0_5), .val (.int (3 : Int32)), .val (.int (4 : Int32)), .unset, .val (.ref b786), .unset, .unset, .unset] [(.int zc1), (.int (1 : Int32)), (.ref b786)])) rfl rfl (hb hby at_61)
      have sf798 := Safe.wr W797 (Safe.arv hZ.alike V791 (by decide)) hCR.1 sf792
      have hCR := hCR.trans (CHr.wr W797 (Safe.arv hZ.alike V791 (by decide)) hCR.1)
      have hk := Nat.le_trans hk (Nat.le_of_eq W797.size.symm)
      have F799 := F793.wr W797
      have F800 := F794.wr W797
      have V797 : Arv Z h797 b786 k786 .char (4 : Int32) [(.int zc0), (.int (nar .char zc1)), (.int (0 : Int32)), (.int (0 : Int32))] (.int (0 : Int32)) := Arv.set Ar797 qc797 Sz797 Nn797 Hh797 Gg797 (fits_nar_char _) W797 1 rfl (Nat.le_of_ble_eq_true rfl)
      rw [show nar .char zc1 = zc1 from own_narC _ hr_zc1] at V797
      have N797 := Fr.snoc X797 N791 gg786
      have K797 : Keep h0 h797 [] := K791.wr W797 (Or.inr sz786)
      have Zs797 : n0 ≤ h797.size := by rw [W797.size]; exact Zs791
      have k802 : ∀ t, Steps p.tables e below (T797.setTop (mkF m 80 #[.val (.int p0_0), .val (.int p0_1), .val (.int p0_2), .val (.int p0_3), .val (.int p0_4), .val (.int p0_5), .val (.int (3 : Int32)), .val (.int (4 : Int32)), .unset, .val (.ref b786), .unset, .unset, .unset] [(.int (((p0_3.toUInt32 >>> ((16 : Int32) &&& 31).toUInt32).toInt32) &&& (255 : Int32)).toUInt32.toUInt16.toUInt32.toInt32), (.int (2 : Int32)), (.ref b786)])) t → Steps p.tables e below (s₁.setTop (entryFrame m #[(.int p0_0), (.int p0_1), (.int p0_2), (.int p0_3), (.int p0_4), (.int p0_5)] maxLocals)) t := by
        intro t k
        refine k796 t ?_
        refine st797 _ ?_
        refine XS.iload X797.here hx rfl (hb hby at_62) rfl ?_
        refine XS.iconst X797.here hx rfl (hb hby at_64) ?_
        refine XS.icmpNo X797.here hx rfl (hb hby at_65) rfl (tlt (by decide : (2 : Int32) < (4 : Int32))).2.2.2 ?_
        refine XS.aload X797.here hx rfl (hb hby at_68) rfl rfl ?_
        refine XS.iconst X797.here hx rfl (hb hby at_70) ?_
        refine XS.iloadN X797.here hx rfl (hb hby at_71) rfl ?_
        refine XS.bipush X797.here hx rfl (hb hby at_72) ?_
        refine XS.iushr X797.here hx rfl (hb hby at_74) rfl ?_
        refine XS.sipush X797.here hx rfl (hb hby at_75) ?_
        refine XS.iand X797.here hx rfl (hb hby at_78) rfl ?_
        refine XS.i2c X797.here hx rfl (hb hby at_79) rfl ?_
        exact k
      rw [show (((p0_3.toUInt32 >>> ((16 : Int32) &&& 31).toUInt32).toInt32) &&& (255 : Int32)).toUInt32.toUInt16.toUInt32.toInt32 = (((p0_3.toUInt32 >>> ((16 : Int32) &&& 31).toUInt32).toInt32) &&& (255 : Int32)) from own_i2c _ (own_m255 _)] at k802
      obtain ⟨zc2, hzc2⟩ : ∃ z, z = (((p0_3.toUInt32 >>> ((16 : Int32) &&& 31).toUInt32).toInt32) &&& (255 : Int32)) := ⟨_, rfl⟩
      rw [← hzc2] at k802
      have hr_zc2 : ¬ (zc2 < (0 : Int32)) ∧ ¬ ((255 : Int32) < zc2) := by rw [hzc2]; exact own_m255 _
      obtain ⟨cl803, Ar803, qc803, Sz803, Nn803, Hh803, Gg803⟩ := (id V797)
      have hin803 : ¬ ((2 : Int32) < 0 ∨ cl803.slots.size ≤ ((2 : Int32)).toNatClampNeg) := inb_of Sz803 ⟨by decide, by decide⟩
      obtain ⟨T803, h803, X803, e803, W803, st803⟩ := stC X797 hx hZ e797 Ar803 (j := (2 : Int32)) hin803 (g := (mkF m 80 #[.val (.int p0_0), .val (.int p0_1), .val (.int p0_2), .val (.int p0_3), .val (.int p0_4), .val (.int p0_5), .val (.int (3 : Int32)), .val (.int (4 : Int32)), .unset, .val (.ref b786), .unset, .unset, .unset] [(.int zc2), (.int (2 : Int32)), (.ref b786)])) rfl rfl (hb hby at_80)
      have sf804 := Safe.wr W803 (Safe.arv hZ.alike V797 (by decide)) hCR.1 sf798
      have hCR := hCR.trans (CHr.wr W803 (Safe.arv hZ.alike V797 (by decide)) hCR.1)
      have hk := Nat.le_trans hk (Nat.le_of_eq W803.size.symm)
      have F805 := F799.wr W803
      have F806 := F800.wr W803
      have V803 : Arv Z h803 b786 k786 .char (4 : Int32) [(.int zc0), (.int zc1), (.int (nar .char zc2)), (.int (0 : Int32))] (.int (0 : Int32)) := Arv.set Ar803 qc803 Sz803 Nn803 Hh803 Gg803 (fits_nar_char _) W803 2 rfl (Nat.le_of_ble_eq_true rfl)
      rw [show nar .char zc2 = zc2 from own_narC _ hr_zc2] at V803
      have N803 := Fr.snoc X803 N797 gg786
      have K803 : Keep h0 h803 [] := K797.wr W803 (Or.inr sz786)
      have Zs803 : n0 ≤ h803.size := by rw [W803.size]; exact Zs797
      have k808 : ∀ t, Steps p.tables e below (T803.setTop (mkF m 99 #[.val (.int p0_0), .val (.int p0_1), .val (.int p0_2), .val (.int p0_3), .val (.int p0_4), .val (.int p0_5), .val (.int (3 : Int32)), .val (.int (4 : Int32)), .unset, .val (.ref b786), .unset, .unset, .unset] [(.int (((p0_3.toUInt32 >>> ((24 : Int32) &&& 31).toUInt32).toInt32) &&& (255 : Int32)).toUInt32.toUInt16.toUInt32.toInt32), (.int (3 : Int32)), (.ref b786)])) t → Steps p.tables e below (s₁.setTop (entryFrame m #[(.int p0_0), (.int p0_1), (.int p0_2), (.int p0_3), (.int p0_4), (.int p0_5)] maxLocals)) t := by
        intro t k
        refine k802 t ?_
        refine st803 _ ?_
        refine XS.iload X803.here hx rfl (hb hby at_81) rfl ?_
        refine XS.iconst X803.here hx rfl (hb hby at_83) ?_
        show Steps p.tables e below (T803.setTop (mkF m 84 #[.val (.int p0_0), .val (.int p0_1), .val (.int p0_2), .val (.int p0_3), .val (.int p0_4), .val (.int p0_5), .val (.int (3 : Int32)), .val (.int (4 : Int32)), .unset, .val (.ref b786), .unset, .unset, .unset] [(.int (3 : Int32)), (.int (4 : Int32))])) _
        refine XS.icmpNo X803.here hx rfl (hb hby at_84) rfl (tlt (by decide : (3 : Int32) < (4 : Int32))).2.2.2 ?_
        refine XS.aload X803.here hx rfl (hb hby at_87) rfl rfl ?_
        refine XS.iconst X803.here hx rfl (hb hby at_89) ?_
        refine XS.iloadN X803.here hx rfl (hb hby at_90) rfl ?_
        refine XS.bipush X803.here hx rfl (hb hby at_91) ?_
        refine XS.iushr X803.here hx rfl (hb hby at_93) rfl ?_
        refine XS.sipush X803.here hx rfl (hb hby at_94) ?_
        refine XS.iand X803.here hx rfl (hb hby at_97) rfl ?_
        refine XS.i2c X803.here hx rfl (hb hby at_98) rfl ?_
        exact k
      rw [show (((p0_3.toUInt32 >>> ((24 : Int32) &&& 31).toUInt32).toInt32) &&& (255 : Int32)).toUInt32.toUInt16.toUInt32.toInt32 = (((p0_3.toUInt32 >>> ((24 : Int32) &&& 31).toUInt32).toInt32) &&& (255 : Int32)) from own_i2c _ (own_m255 _)] at k808
      obtain ⟨zc3, hzc3⟩ : ∃ z, z = (((p0_3.toUInt32 >>> ((24 : Int32) &&& 31).toUInt32).toInt32) &&& (255 : Int32)) := ⟨_, rfl⟩
      rw [← hzc3] at k808
      have hr_zc3 : ¬ (zc3 < (0 : Int32)) ∧ ¬ ((255 : Int32) < zc3) := by rw [hzc3]; exact own_m255 _
      obtain ⟨cl809, Ar809, qc809, Sz809, Nn809, Hh809, Gg809⟩ := (id V803)
      have hin809 : ¬ ((3 : Int32) < 0 ∨ cl809.slots.size ≤ ((3 : Int32)).toNatClampNeg) := inb_of Sz809 ⟨by decide, by decide⟩
      obtain ⟨T809, h809, X809, e809, W809, st809⟩ := stC X803 hx hZ e803 Ar809 (j := (3 : Int32)) hin809 (g := (mkF m 99 #[.val (.int p0_0), .val (.int p0_1), .val (.int p0_2), .val (.int p0_3), .val (.int p0_4), .val (.int p0_5), .val (.int (3 : Int32)), .val (.int (4 : Int32)), .unset, .val (.ref b786), .unset, .unset, .unset] [(.int zc3), (.int (3 : Int32)), (.ref b786)])) rfl rfl (hb hby at_99)
      have sf810 := Safe.wr W809 (Safe.arv hZ.alike V803 (by decide)) hCR.1 sf804
      have hCR := hCR.trans (CHr.wr W809 (Safe.arv hZ.alike V803 (by decide)) hCR.1)
      have hk := Nat.le_trans hk (Nat.le_of_eq W809.size.symm)
      have F811 := F805.wr W809
      have F812 := F806.wr W809
      have V809 : Arv Z h809 b786 k786 .char (4 : Int32) [(.int zc0), (.int zc1), (.int zc2), (.int (nar .char zc3))] (.int (0 : Int32)) := Arv.set Ar809 qc809 Sz809 Nn809 Hh809 Gg809 (fits_nar_char _) W809 3 rfl (Nat.le_of_ble_eq_true rfl)
      rw [show nar .char zc3 = zc3 from own_narC _ hr_zc3] at V809
      have N809 := Fr.snoc X809 N803 gg786
      have K809 : Keep h0 h809 [] := K803.wr W809 (Or.inr sz786)
      have Zs809 : n0 ≤ h809.size := by rw [W809.size]; exact Zs803
      obtain ⟨b814, g814⟩ : ∃ z, z = h809.size := ⟨_, rfl⟩
      obtain ⟨T814, h814, X814, e814, E814, A814, D814, -, st814⟩ := newO X809 hx hZ hown (wd hw 52 rfl) (wd hw 3 rfl) (wd hw 2 rfl) e809 (g := (mkF m 100 #[.val (.int p0_0), .val (.int p0_1), .val (.int p0_2), .val (.int p0_3), .val (.int p0_4), .val (.int p0_5), .val (.int (3 : Int32)), .val (.int (4 : Int32)), .unset, .val (.ref b786), .unset, .unset, .unset] [])) rfl (hb hby at_100) (by decide) (by decide)
      rw [← g814] at A814 D814 st814
      have ne815 : b786 ≠ b814 := Nat.ne_of_lt (Nat.lt_of_lt_of_le V809.lt (Nat.le_of_eq g814.symm))
      have sfn814 := Safe.new (Z := Z) (EL := consts_1) (vm := s.vm) (Nat.le_of_eq g814.symm)
      have sf816 := Safe.ext E814 hCR.1 sf810
      have sf817 := Safe.ext E814 hCR.1 sfn814
      have hCR := hCR.trans (CHr.ext E814 hCR.1)
      have hk := Nat.le_trans hk E814.1
      have gg814 : n0 ≤ b814 := Nat.le_trans Zs809 (Nat.le_of_eq g814.symm)
      have sz814 : h0.size ≤ b814 := Nat.le_trans K809.1 (Nat.le_of_eq g814.symm)
      have Zs814 : n0 ≤ h814.size := Nat.le_trans Zs809 E814.1
      have K814 : Keep h0 h814 [] := K809.ext E814
      have F818 := F811.ext E814
      have F819 := F812.ext E814
      have F820 := V809.ext E814
      have F821 : Fld Z h814 b814 "java/lang/String" "value" "[B" .null := D814 (Or.inr (wd hw 5 rfl)) (ty := (.array .byte)) (by decide)
      have F822 : Fld Z h814 b814 "java/lang/String" "coder" "B" (.int (0 : Int32)) := D814 (Or.inr (wd hw 6 rfl)) (ty := .byte) (by decide)
      obtain ⟨_, _, ⟨T823, L823, k823, n823⟩, -, X823, ⟨Lc823, hQ823, l823, y823, z823⟩, st823⟩ := X814.specialBack hx (y := (⟨"java/lang/String", "<init>", "([C)V"⟩ : MethodName)) rfl hown (mvT hZ (wd hw 53 rfl)) (mvT hZ (wd hw 54 rfl)) (mvT hZ (wd hw 55 rfl)) (by decide) (StrChars.Road.backV (W := 1) hZ (fun d hd => hw d (own_sub_backV d hd)) (kI := 4) (wd hw 3 rfl) (cs := ([zc0, zc1, zc2, zc3] : List Int32)) (bs := ([zc0, zc1, zc2, zc3] : List Int32).map (fun c => c.toInt8.toInt32)) (n := 4) gg814 Zs814 A814 F821 F822 F820 F818 hcs rfl rfl (by decide) (by decide) (own_alS ⟨hr_zc0.1, hr_zc0.2⟩ (own_alS ⟨hr_zc1.1, hr_zc1.2⟩ (own_alS ⟨hr_zc2.1, hr_zc2.2⟩ (own_alS ⟨hr_zc3.1, hr_zc3.2⟩ own_al0)))) rfl (by decide) (by decide)) (g := (mkF m 106 #[.val (.int p0_0), .val (.int p0_1), .val (.int p0_2), .val (.int p0_3), .val (.int p0_4), .val (.int p0_5), .val (.int (3 : Int32)), .val (.int (4 : Int32)), .unset, .val (.ref b786), .unset, .unset, .unset] [(.ref b786), (.ref b814), (.ref b814)])) rfl (by rw [hml]; rfl) (Steps.refl _) (a := b814) (argsL := [(.ref b786)]) (rest := [(.ref b814)]) (lenOf pd_13 rfl) rfl (by show 2 * 0 + _ ≤ _; exact Nat.le_of_eq rfl) (hb hby at_106) (fun _ _ => ⟨rfl, e814, (by decide : 2 + 1 ≤ _), (by decide : 8 + 4 ≤ _)⟩)
      dsimp only [Pt.U, Pt.locs, Pt.cells, Pt.slots] at X823 l823 y823 z823 st823 hQ823
      rw [l823, y823, z823] at X823
      obtain ⟨rfl, N823q, Kc823, G823_0, G823_1, t823, kb823, ggt823, szt823, nex823, G823_2, G823_3⟩ := hQ823
      have szz823 : h0.size ≤ t823 := Nat.le_trans K814.1 szt823
      have Zs823 : n0 ≤ T823.heap.size := Nat.le_trans Zs814 Kc823.1
      have K823 : Keep h0 T823.heap [] := K814.trans Kc823 (allS (Or.inr sz814) all0)
      have sf824 := Safe.keep Kc823 (sfS sf817 sf0) hCR.1 sf816
      have sf825 := Safe.keep Kc823 (sfS sf817 sf0) hCR.1 sf817
      have hCR := hCR.trans (CHr.keep Kc823 (sfS sf817 sf0) hCR.1)
      have hk := Nat.le_trans hk Kc823.1
      have F826 := own_stakeep F818 Kc823 (allS (own_nsE A814) all0)
      have F827 := own_stakeep F819 Kc823 (allS (own_nsE A814) all0)
      have F828 := F820.keep Kc823 (ninS ne815 nin0)
      have N823 := Fr.app N809 N823q
      have k829 : ∀ t, Steps p.tables e below (T823.setTop (mkF m 242 #[.val (.int p0_0), .val (.int p0_1), .val (.int p0_2), .val (.int p0_3), .val (.int p0_4), .val (.int p0_5), .val (.int (3 : Int32)), .val (.int (4 : Int32)), .val (.ref b814), .val (.ref b786), .unset, .unset, .unset] [])) t → Steps p.tables e below (s₁.setTop (entryFrame m #[(.int p0_0), (.int p0_1), (.int p0_2), (.int p0_3), (.int p0_4), (.int p0_5)] maxLocals)) t := by
        intro t k
        refine k808 t ?_
        refine st809 _ ?_
        refine st814 _ ?_
        refine XS.dup X814.here hx rfl (hb hby at_103) rfl rfl ?_
        refine XS.aload X814.here hx rfl (hb hby at_104) rfl rfl ?_
        refine st823.trans ?_
        refine XS.astore X823.here hx rfl (hb hby at_109) rfl rfl (l' := #[.val (.int p0_0), .val (.int p0_1), .val (.int p0_2), .val (.int p0_3), .val (.int p0_4), .val (.int p0_5), .val (.int (3 : Int32)), .val (.int (4 : Int32)), .val (.ref b814), .val (.ref b786), .unset, .unset, .unset]) rfl ?_
        refine XS.goto X823.here hx rfl (pc0 := 111) (pc' := 242) rfl (hb hby at_111) (by decide) (by decide) ?_
        exact k
      obtain ⟨t_, o_, ss_, s2_, s3_, v_, L_, hv_, hq_, hf_⟩ := sgs1 hw hEL wS h0 p0_0 p0_1 p0_2 p0_3 p0_4 p0_5 (3 : Int32) (4 : Int32) b814 (.unset) (.unset) b786 (.unset) u_EMPTY u__VALUES cl_u__VALUES u_RESPONSE_TIME u_THROUGHPUT u_COST u_RESPONSE_TIME_column u_RESPONSE_TIME_column_value cl_u_RESPONSE_TIME_column_value u_THROUGHPUT_column u_THROUGHPUT_column_value cl_u_THROUGHPUT_column_value u_COST_column u_COST_column_value cl_u_COST_column_value cs t823 kb823 (4 : Int32) ([zc0, zc1, zc2, zc3] : List Int32) T823.heap n0 Zs823 S_EMPTY E_u_EMPTY F_u_EMPTY_value S__VALUES E_u__VALUES S_RESPONSE_TIME E_u_RESPONSE_TIME S_THROUGHPUT E_u_THROUGHPUT S_COST E_u_COST F_u_RESPONSE_TIME_column E_u_RESPONSE_TIME_column F_u_RESPONSE_TIME_column_coder F_u_RESPONSE_TIME_column_value F_u_THROUGHPUT_column E_u_THROUGHPUT_column F_u_THROUGHPUT_column_coder F_u_THROUGHPUT_column_value F_u_COST_column E_u_COST_column F_u_COST_column_coder F_u_COST_column_value V_u__VALUES V_u_RESPONSE_TIME_column_value V_u_THROUGHPUT_column_value V_u_COST_column_value K823 F826 G823_0 G823_2 G823_1 G823_3 hcs (Or.inl rfl) rfl (own_alS ⟨hr_zc0.1, hr_zc0.2⟩ (own_alS ⟨hr_zc1.1, hr_zc1.2⟩ (own_alS ⟨hr_zc2.1, hr_zc2.2⟩ (own_alS ⟨hr_zc3.1, hr_zc3.2⟩ own_al0)))) (Nat.le_of_ble_eq_true rfl) (X823.more (by decide) (by decide)) hx hZ hby hml hown Bd.returns (by first | assumption | exact BodyLoose.notSynchronized (by assumption) | exact Body.notSynchronized (by assumption)) rfl N823 hh hS hk hCR
      exact ⟨t_, o_, k829 _ ss_, s2_, s3_, v_, L_, hv_, hq_, hf_⟩
set_option maxRecDepth 65536 in
set_option maxHeartbeats 40000000 in
theorem comes_1 {Post : Tables → Env → Array Value → State → Outcome → State → Prop} (hpost : ∀ tb e args s v u, (limb_1_1.after args s (.returned v) u = true ∧ limb_1_2.after args s (.returned v) u = true ∧ True) → ReturnedEndW s (.returned v) u (Jvm.fieldLocs frame_1_writes args s ++ Jvm.arrayLocs frame_1_arrays args s ++ Jvm.staticLocs frame_1_statics s) 32 4288 → Post tb e args s (.returned v) u) :
    ArmFor flags0 classFile x code maxLocals ret World_1 tables_1 room_1 Calls_1 rest_1 Pre_1 Post := by
  intro l hfl _ _ p e ha hc hk s m args below hf hA hF happ hP
  obtain ⟨hcalls, hrest, hpre⟩ := hP
  obtain ⟨-, -, -, hnamed, -, -, -, hat⟩ := (Spec.applies_iff hf).mp happ
  obtain ⟨hg, hn⟩ := and_e (Cond.before_iff.mp (show (Jvm.Cond.and given_1 narrow_1).before args s = true from hpre))
  obtain ⟨gv1, gv2⟩ := and_e hg
  obtain ⟨gv3, gv4⟩ := and_e gv2
  obtain ⟨gv5, gv6⟩ := and_e gv4
  obtain ⟨gv7, gv8⟩ := and_e gv6
  obtain ⟨gv9, gv10⟩ := and_e gv8
  obtain ⟨gv11, gv12⟩ := and_e gv10
  obtain ⟨w0, w1, w2, w3, w4, w5, rfl⟩ : ∃ w0 w1 w2 w3 w4 w5 : Value, args = #[w0, w1, w2, w3, w4, w5] := by
    have hs : args.size = 6 := by simpa [Cond.value, given_1] using gv1
    obtain ⟨L⟩ := args
    match L, hs with
    | [w0, w1, w2, w3, w4, w5], _ => exact ⟨w0, w1, w2, w3, w4, w5, rfl⟩
  have hw := fun d (hd : d ∈ tables_1) => atoms_spec (ws := Jvm.Cond.code x code maxLocals ret :: tables_1) hat d (List.mem_cons_of_mem _ hd)
  have hfit : Fit s := fun {y c} hc i hi => by
    obtain ⟨ha, rfl⟩ := Array.getElem?_eq_some_iff.mp hc
    have q := List.all_eq_true.mp ((Array.all_eq_true_iff_forall_mem.mp hF) _ (Array.getElem_mem ha)) i (List.mem_range.mpr hi)
    simpa [Array.getElem?_eq_getElem hi] using q
  obtain ⟨hsets, hown0⟩ := atoms_of _ (rest_1_c_eq ▸ (show rest_1_c.before _ s = true from hrest))
  have hr0 := Cond.before_iff.mp hown0
  obtain ⟨i0, ei0⟩ := is_v gv3
  obtain rfl : w0 = (.int i0) := Option.some.inj ei0
  obtain ⟨i1, ei1⟩ := is_v gv5
  obtain rfl : w1 = (.int i1) := Option.some.inj ei1
  obtain ⟨i2, ei2⟩ := is_v gv7
  obtain rfl : w2 = (.int i2) := Option.some.inj ei2
  obtain ⟨i3, ei3⟩ := is_v gv9
  obtain rfl : w3 = (.int i3) := Option.some.inj ei3
  obtain ⟨i4, ei4⟩ := is_v gv11
  obtain rfl : w4 = (.int i4) := Option.some.inj ei4
  obtain ⟨i5, ei5⟩ := is_v gv12
  obtain rfl : w5 = (.int i5) := Option.some.inj ei5
  obtain ⟨nv1, nv2⟩ := and_e hn
  obtain ⟨nv3, nv4⟩ := and_e nv2
  obtain ⟨nv5, nv6⟩ := and_e nv4
  obtain ⟨nv7, nv8⟩ := and_e nv6
  obtain ⟨nv9, nv10⟩ := and_e nv8
  obtain ⟨nv11, nv12⟩ := and_e nv10
  obtain ⟨nv13, nv14⟩ := and_e nv12
  obtain ⟨nv15, nv16⟩ := and_e nv14
  obtain ⟨nv17, nv18⟩ := and_e nv16
  obtain ⟨nv19, nv20⟩ := and_e nv18
  obtain ⟨nv21, nv22⟩ := and_e nv20
  obtain ⟨nv23, nv24⟩ := and_e nv22
  obtain ⟨nv25, nv26⟩ := and_e nv24
  obtain ⟨nv27, nv28⟩ := and_e nv26
  obtain ⟨nv29, nv30⟩ := and_e nv28
  obtain ⟨nv31, nv32⟩ := and_e nv30
  obtain ⟨nv33, nv34⟩ := and_e nv32
  obtain ⟨nv35, nv36⟩ := and_e nv34
  obtain ⟨nv37, nv38⟩ := and_e nv36
  obtain ⟨nv39, nv40⟩ := and_e nv38
  obtain ⟨nv41, nv42⟩ := and_e nv40
  obtain ⟨nv43, nv44⟩ := and_e nv42
  obtain ⟨nv45, nv46⟩ := and_e nv44
  obtain ⟨nv47, nv48⟩ := and_e nv46
  obtain ⟨nv49, nv50⟩ := and_e nv48
  obtain ⟨nv51, nv52⟩ := and_e nv50
  obtain ⟨nv53, nv54⟩ := and_e nv52
  obtain ⟨nv55, nv56⟩ := and_e nv54
  obtain ⟨nv57, nv58⟩ := and_e nv56
  obtain ⟨nv59, nv60⟩ := and_e nv58
  obtain ⟨nv61, nv62⟩ := and_e nv60
  obtain ⟨nv63, nv64⟩ := and_e nv62
  obtain ⟨nv65, nv66⟩ := and_e nv64
  obtain ⟨nv67, nv68⟩ := and_e nv66
  obtain ⟨nv69, nv70⟩ := and_e nv68
  obtain ⟨nv71, nv72⟩ := and_e nv70
  obtain ⟨nv73, nv74⟩ := and_e nv72
  obtain ⟨nv75, nv76⟩ := and_e nv74
  obtain ⟨nv77, nv78⟩ := and_e nv76
  obtain ⟨nv79, nv80⟩ := and_e nv78
  obtain ⟨nv81, nv82⟩ := and_e nv80
  obtain ⟨nv83, nv84⟩ := and_e nv82
  obtain ⟨nv85, nv86⟩ := and_e nv84
  obtain ⟨nv87, nv88⟩ := and_e nv86
  obtain ⟨nv89, nv90⟩ := and_e nv88
  obtain ⟨nv91, nv92⟩ := and_e nv90
  obtain ⟨nv93, nv94⟩ := and_e nv92
  obtain ⟨nv95, nv96⟩ := and_e nv94
  obtain ⟨nv97, nv98⟩ := and_e nv96
  obtain ⟨nv99, nv100⟩ := and_e nv98
  obtain ⟨nv101, nv102⟩ := and_e nv100
  obtain ⟨nv103, nv104⟩ := and_e nv102
  obtain ⟨nv105, nv106⟩ := and_e nv104
  obtain ⟨nv107, nv108⟩ := and_e nv106
  obtain ⟨nv109, nv110⟩ := and_e nv108
  obtain ⟨nv111, nv112⟩ := and_e nv110
  obtain ⟨u_EMPTY, ev_u_EMPTY, E_u_EMPTY⟩ := own_ex (Cond.before_iff.mp (hsets _ (List.mem_of_getElem? (i := 11) rfl)))
  have S_EMPTY : Sta s s.heap "java/util/Optional" "EMPTY" "Ljava/util/Optional;" (.ref u_EMPTY) := Sta.start ev_u_EMPTY (Or.inl (hsets _ (List.mem_of_getElem? (i := 10) rfl)))
  have e_1 := null_v (Cond.before_iff.mp (hsets _ (List.mem_of_getElem? (i := 12) rfl)))
  have F_u_EMPTY_value : Fld s s.heap u_EMPTY "java/util/Optional" "value" "Ljava/lang/Object;" .null := own_fldV ev_u_EMPTY e_1
  obtain ⟨u__VALUES, ev_u__VALUES⟩ := arr_v nv1
  obtain ⟨cl_u__VALUES, Ar_u__VALUES⟩ := Arr.start ev_u__VALUES nv1
  have S__VALUES : Sta s s.heap "com/example/leanweave/leanweave/QosMeasure" "$VALUES" "[Lcom/example/leanweave/leanweave/QosMeasure;" (.ref u__VALUES) := Sta.start ev_u__VALUES (Or.inl (wd hw 92 rfl))
  have E_u__VALUES := Exa.start ev_u__VALUES nv3
  have e_2 := own_evI nv5
  obtain ⟨u_RESPONSE_TIME, ev_u_RESPONSE_TIME, E_u_RESPONSE_TIME⟩ := own_ex nv7
  have S_RESPONSE_TIME : Sta s s.heap "com/example/leanweave/leanweave/QosMeasure" "RESPONSE_TIME" "Lcom/example/leanweave/leanweave/QosMeasure;" (.ref u_RESPONSE_TIME) := Sta.start ev_u_RESPONSE_TIME (Or.inr ⟨(wd hw 75 rfl), (wd hw 89 rfl)⟩)
  have e_3 := own_evR nv9 ev_u_RESPONSE_TIME
  obtain ⟨u_THROUGHPUT, ev_u_THROUGHPUT, E_u_THROUGHPUT⟩ := own_ex nv11
  have S_THROUGHPUT : Sta s s.heap "com/example/leanweave/leanweave/QosMeasure" "THROUGHPUT" "Lcom/example/leanweave/leanweave/QosMeasure;" (.ref u_THROUGHPUT) := Sta.start ev_u_THROUGHPUT (Or.inr ⟨(wd hw 75 rfl), (wd hw 90 rfl)⟩)
  have e_4 := own_evR nv13 ev_u_THROUGHPUT
  obtain ⟨u_COST, ev_u_COST, E_u_COST⟩ := own_ex nv15
  have S_COST : Sta s s.heap "com/example/leanweave/leanweave/QosMeasure" "COST" "Lcom/example/leanweave/leanweave/QosMeasure;" (.ref u_COST) := Sta.start ev_u_COST (Or.inr ⟨(wd hw 75 rfl), (wd hw 91 rfl)⟩)
  have e_5 := own_evR nv17 ev_u_COST
  obtain ⟨u_RESPONSE_TIME_column, ev_u_RESPONSE_TIME_column, E_u_RESPONSE_TIME_column⟩ := own_ex nv19
  have F_u_RESPONSE_TIME_column : Fld s s.heap u_RESPONSE_TIME "com/example/leanweave/leanweave/QosMeasure" "column" "Ljava/lang/String;" (.ref u_RESPONSE_TIME_column) := own_fldV ev_u_RESPONSE_TIME ev_u_RESPONSE_TIME_column
  have e_6 := own_evI nv21
  have F_u_RESPONSE_TIME_column_coder : Fld s s.heap u_RESPONSE_TIME_column "java/lang/String" "coder" "B" (.int (0 : Int32)) := own_fldV ev_u_RESPONSE_TIME_column e_6
  obtain ⟨u_RESPONSE_TIME_column_value, ev_u_RESPONSE_TIME_column_value⟩ := arr_v nv23
  obtain ⟨cl_u_RESPONSE_TIME_column_value, Ar_u_RESPONSE_TIME_column_value⟩ := Arr.start ev_u_RESPONSE_TIME_column_value nv23
  have F_u_RESPONSE_TIME_column_value : Fld s s.heap u_RESPONSE_TIME_column "java/lang/String" "value" "[B" (.ref u_RESPONSE_TIME_column_value) := own_fldV ev_u_RESPONSE_TIME_column ev_u_RESPONSE_TIME_column_value
  have e_7 := own_evI nv25
  obtain ⟨u_THROUGHPUT_column, ev_u_THROUGHPUT_column, E_u_THROUGHPUT_column⟩ := own_ex nv27
  have F_u_THROUGHPUT_column : Fld s s.heap u_THROUGHPUT "com/example/leanweave/leanweave/QosMeasure" "column" "Ljava/lang/String;" (.ref u_THROUGHPUT_column) := own_fldV ev_u_THROUGHPUT ev_u_THROUGHPUT_column
  have e_8 := own_evI nv29
  have F_u_THROUGHPUT_column_coder : Fld s s.heap u_THROUGHPUT_column "java/lang/String" "coder" "B" (.int (0 : Int32)) := own_fldV ev_u_THROUGHPUT_column e_8
  obtain ⟨u_THROUGHPUT_column_value, ev_u_THROUGHPUT_column_value⟩ := arr_v nv31
  obtain ⟨cl_u_THROUGHPUT_column_value, Ar_u_THROUGHPUT_column_value⟩ := Arr.start ev_u_THROUGHPUT_column_value nv31
  have F_u_THROUGHPUT_column_value : Fld s s.heap u_THROUGHPUT_column "java/lang/String" "value" "[B" (.ref u_THROUGHPUT_column_value) := own_fldV ev_u_THROUGHPUT_column ev_u_THROUGHPUT_column_value
  have e_9 := own_evI nv33
  obtain ⟨u_COST_column, ev_u_COST_column, E_u_COST_column⟩ := own_ex nv35
  have F_u_COST_column : Fld s s.heap u_COST "com/example/leanweave/leanweave/QosMeasure" "column" "Ljava/lang/String;" (.ref u_COST_column) := own_fldV ev_u_COST ev_u_COST_column
  have e_10 := own_evI nv37
  have F_u_COST_column_coder : Fld s s.heap u_COST_column "java/lang/String" "coder" "B" (.int (0 : Int32)) := own_fldV ev_u_COST_column e_10
  obtain ⟨u_COST_column_value, ev_u_COST_column_value⟩ := arr_v nv39
  obtain ⟨cl_u_COST_column_value, Ar_u_COST_column_value⟩ := Arr.start ev_u_COST_column_value nv39
  have F_u_COST_column_value : Fld s s.heap u_COST_column "java/lang/String" "value" "[B" (.ref u_COST_column_value) := own_fldV ev_u_COST_column ev_u_COST_column_value
  have e_11 := own_evI nv41
  have e_12 := own_evI nv43
  have e_13 := own_evI nv45
  have e_14 := own_evI nv47
  have e_15 := own_evI nv49
  have e_16 := own_evI nv51
  have e_17 := own_evI nv53
  have e_18 := own_evI nv55
  have e_19 := own_evI nv57
  have e_20 := own_evI nv59
  have e_21 := own_evI nv61
  have e_22 := own_evI nv63
  have e_23 := own_evI nv65
  have e_24 := own_evI nv67
  have e_25 := own_evI nv69
  have e_26 := own_evI nv71
  have e_27 := own_evI nv73
  have e_28 := own_evI nv75
  have e_29 := own_evI nv77
  have e_30 := own_evI nv79
  have e_31 := own_evI nv81
  have e_32 := own_evI nv83
  have e_33 := own_evI nv85
  have e_34 := own_evI nv87
  have e_35 := own_evI nv89
  have e_36 := own_evI nv91
  have e_37 := own_evI nv93
  have e_38 := own_evI nv95
  have e_39 := own_evI nv97
  have e_40 := own_evI nv99
  have e_41 := own_evI nv101
  have e_42 := own_evI nv103
  have e_43 := own_evI nv105
  have e_44 := own_evI nv107
  have e_45 := own_evI nv109
  have e_46 := own_evI nv111
  have e_47 := own_evI nv112
  have hl_u__VALUES := own_len ev_u__VALUES (Ar_u__VALUES.fin (Vm.Alike.refl _)) e_2
  have V_u__VALUES : Arv s s.heap u__VALUES cl_u__VALUES.cls (.object "com/example/leanweave/leanweave/QosMeasure") (3 : Int32) [(.ref u_RESPONSE_TIME), (.ref u_THROUGHPUT), (.ref u_COST)] .null := Arv.start hfit Ar_u__VALUES hl_u__VALUES.1 hl_u__VALUES.2 (by decide) rfl ⟨(elem_in e_3 ev_u__VALUES (Term.int_eval _) Ar_u__VALUES.1).2, (elem_in e_4 ev_u__VALUES (Term.int_eval _) Ar_u__VALUES.1).2, (elem_in e_5 ev_u__VALUES (Term.int_eval _) Ar_u__VALUES.1).2, trivial⟩
  have hl_u_RESPONSE_TIME_column_value := own_len ev_u_RESPONSE_TIME_column_value (Ar_u_RESPONSE_TIME_column_value.fin (Vm.Alike.refl _)) e_7
  have V_u_RESPONSE_TIME_column_value : Arv s s.heap u_RESPONSE_TIME_column_value cl_u_RESPONSE_TIME_column_value.cls .byte (16 : Int32) [(.int (114 : Int32)), (.int (101 : Int32)), (.int (115 : Int32)), (.int (112 : Int32)), (.int (111 : Int32)), (.int (110 : Int32)), (.int (115 : Int32)), (.int (101 : Int32)), (.int (95 : Int32)), (.int (116 : Int32)), (.int (105 : Int32)), (.int (109 : Int32)), (.int (101 : Int32)), (.int (95 : Int32)), (.int (109 : Int32)), (.int (115 : Int32))] (.int (0 : Int32)) := Arv.start hfit Ar_u_RESPONSE_TIME_column_value hl_u_RESPONSE_TIME_column_value.1 hl_u_RESPONSE_TIME_column_value.2 (by decide) rfl ⟨(elem_in e_16 ev_u_RESPONSE_TIME_column_value (Term.int_eval _) Ar_u_RESPONSE_TIME_column_value.1).2, (elem_in e_17 ev_u_RESPONSE_TIME_column_value (Term.int_eval _) Ar_u_RESPONSE_TIME_column_value.1).2, (elem_in e_18 ev_u_RESPONSE_TIME_column_value (Term.int_eval _) Ar_u_RESPONSE_TIME_column_value.1).2, (elem_in e_19 ev_u_RESPONSE_TIME_column_value (Term.int_eval _) Ar_u_RESPONSE_TIME_column_value.1).2, (elem_in e_20 ev_u_RESPONSE_TIME_column_value (Term.int_eval _) Ar_u_RESPONSE_TIME_column_value.1).2, (elem_in e_21 ev_u_RESPONSE_TIME_column_value (Term.int_eval _) Ar_u_RESPONSE_TIME_column_value.1).2, (elem_in e_22 ev_u_RESPONSE_TIME_column_value (Term.int_eval _) Ar_u_RESPONSE_TIME_column_value.1).2, (elem_in e_23 ev_u_RESPONSE_TIME_column_value (Term.int_eval _) Ar_u_RESPONSE_TIME_column_value.1).2, (elem_in e_24 ev_u_RESPONSE_TIME_column_value (Term.int_eval _) Ar_u_RESPONSE_TIME_column_value.1).2, (elem_in e_25 ev_u_RESPONSE_TIME_column_value (Term.int_eval _) Ar_u_RESPONSE_TIME_column_value.1).2, (elem_in e_26 ev_u_RESPONSE_TIME_column_value (Term.int_eval _) Ar_u_RESPONSE_TIME_column_value.1).2, (elem_in e_27 ev_u_RESPONSE_TIME_column_value (Term.int_eval _) Ar_u_RESPONSE_TIME_column_value.1).2, (elem_in e_28 ev_u_RESPONSE_TIME_column_value (Term.int_eval _) Ar_u_RESPONSE_TIME_column_value.1).2, (elem_in e_29 ev_u_RESPONSE_TIME_column_value (Term.int_eval _) Ar_u_RESPONSE_TIME_column_value.1).2, (elem_in e_30 ev_u_RESPONSE_TIME_column_value (Term.int_eval _) Ar_u_RESPONSE_TIME_column_value.1).2, (elem_in e_31 ev_u_RESPONSE_TIME_column_value (Term.int_eval _) Ar_u_RESPONSE_TIME_column_value.1).2, trivial⟩
  have hl_u_THROUGHPUT_column_value := own_len ev_u_THROUGHPUT_column_value (Ar_u_THROUGHPUT_column_value.fin (Vm.Alike.refl _)) e_9
  have V_u_THROUGHPUT_column_value : Arv s s.heap u_THROUGHPUT_column_value cl_u_THROUGHPUT_column_value.cls .byte (16 : Int32) [(.int (116 : Int32)), (.int (104 : Int32)), (.int (114 : Int32)), (.int (111 : Int32)), (.int (117 : Int32)), (.int (103 : Int32)), (.int (104 : Int32)), (.int (112 : Int32)), (.int (117 : Int32)), (.int (116 : Int32)), (.int (95 : Int32)), (.int (112 : Int32)), (.int (101 : Int32)), (.int (114 : Int32)), (.int (95 : Int32)), (.int (115 : Int32))] (.int (0 : Int32)) := Arv.start hfit Ar_u_THROUGHPUT_column_value hl_u_THROUGHPUT_column_value.1 hl_u_THROUGHPUT_column_value.2 (by decide) rfl ⟨(elem_in e_32 ev_u_THROUGHPUT_column_value (Term.int_eval _) Ar_u_THROUGHPUT_column_value.1).2, (elem_in e_33 ev_u_THROUGHPUT_column_value (Term.int_eval _) Ar_u_THROUGHPUT_column_value.1).2, (elem_in e_34 ev_u_THROUGHPUT_column_value (Term.int_eval _) Ar_u_THROUGHPUT_column_value.1).2, (elem_in e_35 ev_u_THROUGHPUT_column_value (Term.int_eval _) Ar_u_THROUGHPUT_column_value.1).2, (elem_in e_36 ev_u_THROUGHPUT_column_value (Term.int_eval _) Ar_u_THROUGHPUT_column_value.1).2, (elem_in e_37 ev_u_THROUGHPUT_column_value (Term.int_eval _) Ar_u_THROUGHPUT_column_value.1).2, (elem_in e_38 ev_u_THROUGHPUT_column_value (Term.int_eval _) Ar_u_THROUGHPUT_column_value.1).2, (elem_in e_39 ev_u_THROUGHPUT_column_value (Term.int_eval _) Ar_u_THROUGHPUT_column_value.1).2, (elem_in e_40 ev_u_THROUGHPUT_column_value (Term.int_eval _) Ar_u_THROUGHPUT_column_value.1).2, (elem_in e_41 ev_u_THROUGHPUT_column_value (Term.int_eval _) Ar_u_THROUGHPUT_column_value.1).2, (elem_in e_42 ev_u_THROUGHPUT_column_value (Term.int_eval _) Ar_u_THROUGHPUT_column_value.1).2, (elem_in e_43 ev_u_THROUGHPUT_column_value (Term.int_eval _) Ar_u_THROUGHPUT_column_value.1).2, (elem_in e_44 ev_u_THROUGHPUT_column_value (Term.int_eval _) Ar_u_THROUGHPUT_column_value.1).2, (elem_in e_45 ev_u_THROUGHPUT_column_value (Term.int_eval _) Ar_u_THROUGHPUT_column_value.1).2, (elem_in e_46 ev_u_THROUGHPUT_column_value (Term.int_eval _) Ar_u_THROUGHPUT_column_value.1).2, (elem_in e_47 ev_u_THROUGHPUT_column_value (Term.int_eval _) Ar_u_THROUGHPUT_column_value.1).2, trivial⟩
  have hl_u_COST_column_value := own_len ev_u_COST_column_value (Ar_u_COST_column_value.fin (Vm.Alike.refl _)) e_11
  have V_u_COST_column_value : Arv s s.heap u_COST_column_value cl_u_COST_column_value.cls .byte (4 : Int32) [(.int (99 : Int32)), (.int (111 : Int32)), (.int (115 : Int32)), (.int (116 : Int32))] (.int (0 : Int32)) := Arv.start hfit Ar_u_COST_column_value hl_u_COST_column_value.1 hl_u_COST_column_value.2 (by decide) rfl ⟨(elem_in e_12 ev_u_COST_column_value (Term.int_eval _) Ar_u_COST_column_value.1).2, (elem_in e_13 ev_u_COST_column_value (Term.int_eval _) Ar_u_COST_column_value.1).2, (elem_in e_14 ev_u_COST_column_value (Term.int_eval _) Ar_u_COST_column_value.1).2, (elem_in e_15 ev_u_COST_column_value (Term.int_eval _) Ar_u_COST_column_value.1).2, trivial⟩
  obtain ⟨cs, ev_cs⟩ := is_v (Cond.before_iff.mp (hsets _ (List.mem_of_getElem? (i := 1) rfl)))
  have Sc : Sta s s.heap "java/lang/String" "COMPACT_STRINGS" "Z" (.int cs) := Sta.start ev_cs (Or.inl (hsets _ (List.mem_of_getElem? (i := 0) rfl)))
  have hcs : ¬ (cs = (0 : Int32)) := gotF (Cond.eq_ints ev_cs (Term.int_eval _)) (not_v (Cond.before_iff.mp (hsets _ (List.mem_of_getElem? (i := 2) rfl))))
  obtain ⟨fm, ev_fm, hfm⟩ := isR_v (Cond.before_iff.mp (hsets _ (List.mem_of_getElem? (i := 8) rfl)))
  have Sf : Sta s s.heap "jdk/internal/util/Preconditions" "SIOOBE_FORMATTER" "Ljava/util/function/BiFunction;" fm := Sta.start ev_fm (Or.inl (hsets _ (List.mem_of_getElem? (i := 7) rfl)))
  have hEL : EW s _ consts_1 := (EW.cons (wd hw 1 rfl) (by decide) (EW.cons (wd hw 122 rfl) (by decide) (EW.cons (wd hw 123 rfl) (by decide) (EW.cons (wd hw 141 rfl) (by decide) EW.nil))))
  have wS : ∀ a ∈ Bundle.stringAtoms, a.before _ s = true := fun d hd => by
    simp only [Bundle.stringAtoms, Bundle.sN, List.mem_cons, List.not_mem_nil, or_false] at hd
    rcases hd with rfl | rfl | rfl | rfl | rfl | rfl | rfl
    · exact (wd hw 2 rfl)
    · exact (wd hw 3 rfl)
    · exact (wd hw 4 rfl)
    · exact (wd hw 5 rfl)
    · exact (wd hw 6 rfl)
    · exact (wd hw 7 rfl)
    · exact (wd hw 8 rfl)
  have hCH : CHv s consts_1 s.vm s.heap := CHv.start hEL (fun p hp => hcalls.1 p hp) (hsets _ (List.mem_of_getElem? (i := 2) rfl)) (wS _ (by simp [Bundle.stringAtoms])) (wS _ (by simp [Bundle.stringAtoms, Bundle.sN]))
  obtain ⟨n, o, h1, h2, h3, _, L, rfl, ⟨rfl, N⟩, -, hq⟩ := rm0 l s _ hw tables_1 hEL wS i0 i1 i2 i3 i4 i5 u_EMPTY u__VALUES cl_u__VALUES u_RESPONSE_TIME u_THROUGHPUT u_COST u_RESPONSE_TIME_column u_RESPONSE_TIME_column_value cl_u_RESPONSE_TIME_column_value u_THROUGHPUT_column u_THROUGHPUT_column_value cl_u_THROUGHPUT_column_value u_COST_column u_COST_column_value cl_u_COST_column_value cs fm s.heap s.heap.size (Nat.le_refl _) S_EMPTY E_u_EMPTY F_u_EMPTY_value S__VALUES E_u__VALUES S_RESPONSE_TIME E_u_RESPONSE_TIME S_THROUGHPUT E_u_THROUGHPUT S_COST E_u_COST F_u_RESPONSE_TIME_column E_u_RESPONSE_TIME_column F_u_RESPONSE_TIME_column_coder F_u_RESPONSE_TIME_column_value F_u_THROUGHPUT_column E_u_THROUGHPUT_column F_u_THROUGHPUT_column_coder F_u_THROUGHPUT_column_value F_u_COST_column E_u_COST_column F_u_COST_column_coder F_u_COST_column_value V_u__VALUES V_u_RESPONSE_TIME_column_value V_u_THROUGHPUT_column_value V_u_COST_column_value Sc Sf hcs hfm p e ha hc hk s m _ below hf ((Spec.applies_iff_loose hf).mp happ).1 ⟨rfl, State.Warmed39.refl s, rfl, hCH⟩ trivial
  refine ⟨n, _, h1, h2, h3, hpost _ _ _ _ _ _ ⟨Cond.after_iff.mpr rfl, Cond.after_iff.mpr (eq_i res_at (Term.int_eval (1)) rfl), trivial⟩ ⟨hq.1, hq.2.1, hq.2.2.1, (hq.2.2.2.sift fun y hy => Or.inr (N y hy)).mono (by decide) (by decide)⟩⟩
theorem main_1_1 : Claimed_1_1 := comes_1 fun _ _ _ _ _ _ h hF => ⟨h.1, hF⟩
theorem main_1_2 : Claimed_1_2 := comes_1 fun _ _ _ _ _ _ h hF => ⟨h.2.1, hF⟩
end Jvm.Pilot.@@N@@
namespace Jvm.Pilot.@@N@@
open Jvm Jvm.ClassFile Sem Op Lib Jvm.Free Jvm.Stand Jvm.Pilot.@@N@@.Jvm.D
/-! MADE BY PROGRAM (witnessworld.py) out of the Statement's table words and the real class files: 24 classes; the members and pool entries that the words name. The judged class is class 1, her method 1. -/
namespace start1
open Jvm.ClassFile
def u (s : String) : CpInfo := .utf8 (stringToUtf16 s)
/-- a pool by its gaps: so many unusable entries, then the entry; so many at the end -/
def gap : Nat → List CpInfo → List CpInfo
  | 0, r => r
  | n + 1, r => .unusable :: gap n r
def poolList (es : List (Nat × CpInfo)) (last : Nat) : List CpInfo := es.foldr (fun e r => gap e.1 (e.2 :: r)) (gap last [])
def pool (es : List (Nat × CpInfo)) (last : Nat) : Array CpInfo := ⟨poolList es last⟩
def fileOf (pool : Array CpInfo) (this : Nat) (attrs : Array Attribute := #[]) (ms : Array MethodInfo := #[]) (fl : Nat := 33) (sup : Nat := 0) (ifs : Array Nat := #[]) (fds : Array FieldInfo := #[]) : ClassFile where
  minorVersion := 0
  majorVersion := 65
  constantPool := pool
  accessFlags := fl
  thisClass := this
  superClass := sup
  interfaces := ifs
  fields := fds
  methods := ms
  attributes := attrs
def plain (name : String) (sup : Option ClassId) : Class where
  name := name
  kind := .ordinary
  loader := none
  accessFlags := 33
  super := sup
  interfaces := #[]
  cf := none
  fields := #[]
  methods := #[]
  instanceTypes := #[]
  staticTypes := #[]
  resolved := #[]
  callSites := []
  init := .initialized
  statics := none
  mirror := none

def pool0 : Array CpInfo := pool [(5, u "<init>"), (0, u "()V"), (1, .class_ 10), (1, u "java/lang/Object"), (85, u "clone"), (0, u "()Ljava/lang/Object;")] 26

def k0c0 : Code := { maxStack := 0, maxLocals := 1, code := object_method_1_code, exceptionTable := #[], attributes := #[] }
def k0m0 : Method := { name := "<init>", desc := "()V", sig := { parameters := [], returnType := none }, accessFlags := 1, code := some k0c0 }
def k0m1 : Method := { name := "clone", desc := "()Ljava/lang/Object;", sig := { parameters := [], returnType := some (.object "java/lang/Object") }, accessFlags := 260, code := none }
/-- java/lang/Object -/
def k0 : Class := { plain "java/lang/Object" none with
  accessFlags := 33
  interfaces := #[]
  cf := some (fileOf pool0 8 #[] #[{ accessFlags := 1, nameIndex := 5, descriptorIndex := 6, attributes := #[] }, { accessFlags := 260, nameIndex := 96, descriptorIndex := 97, attributes := #[] }] 33 0 #[] #[])
  fields := #[]
  methods := #[k0m0, k0m1]
  instanceTypes := #[]
  staticTypes := #[]
  resolved := Array.replicate 124 none
  statics := none }

def pool1 : Array CpInfo := pool [(2, .class_ 4), (1, u "java/lang/Object"), (0, u "<init>"), (0, u "()V"), (0, .integer 2147483647), (0, .class_ 9), (0, u "java/lang/String"), (0, .methodref 8 11), (0, .nameAndType 5 12), (0, u "([C)V"), (0, .string 14), (0, u "response_time_ms"), (0, .string 16), (0, u "throughput_per_s"), (0, .string 18), (0, u "cost"), (0, .methodref 8 20), (0, .nameAndType 21 22), (0, u "length"), (0, u "()I"), (0, .methodref 24 25), (0, .class_ 26), (0, .nameAndType 27 28), (0, u "com/example/leanweave/leanweave/QosMeasureOfColumnPinLaw"), (0, u "fill"), (0, u "([CLjava/lang/String;C)V"), (0, .methodref 30 31), (0, .class_ 32), (0, .nameAndType 33 34), (0, u "com/example/leanweave/leanweave/QosMeasure"), (0, u "ofColumn"), (0, u "(Ljava/lang/String;)Ljava/util/Optional;"), (0, .methodref 36 37), (0, .class_ 38), (0, .nameAndType 39 40), (0, u "java/util/Optional"), (0, u "orElse"), (0, u "(Ljava/lang/Object;)Ljava/lang/Object;"), (0, .methodref 24 42), (0, .nameAndType 43 44), (0, u "ref"), (0, u "(Ljava/lang/String;)Lcom/example/leanweave/leanweave/QosMeasure;"), (0, .methodref 8 46), (0, .nameAndType 47 48), (0, u "equals"), (0, u "(Ljava/lang/Object;)Z"), (0, .fieldref 30 50), (0, .nameAndType 51 52), (0, u "RESPONSE_TIME"), (0, u "Lcom/example/leanweave/leanweave/QosMeasure;"), (0, .fieldref 30 54), (0, .nameAndType 55 52), (0, u "THROUGHPUT"), (0, .fieldref 30 57), (0, .nameAndType 58 52), (0, u "COST"), (0, .methodref 8 60), (0, .nameAndType 61 62), (0, u "charAt"), (0, u "(I)C"), (0, .methodref 24 64), (0, .nameAndType 65 66), (0, u "put"), (0, u "([CILjava/lang/String;C)V"), (2, u "law"), (0, u "(IIIIII)Z")] 5

def k1m0 : Method := { name := "<init>", desc := "()V", sig := { parameters := [], returnType := none }, accessFlags := 2, code := none }
def k1c1 : Code := { maxStack := 4, maxLocals := 13, code := code, exceptionTable := #[], attributes := #[] }
def k1m1 : Method := { name := "law", desc := "(IIIIII)Z", sig := { parameters := [.int, .int, .int, .int, .int, .int], returnType := some .boolean }, accessFlags := 9, code := some k1c1 }
def k1c2 : Code := { maxStack := 2, maxLocals := 1, code := method_3_code, exceptionTable := #[], attributes := #[] }
def k1m2 : Method := { name := "ref", desc := "(Ljava/lang/String;)Lcom/example/leanweave/leanweave/QosMeasure;", sig := { parameters := [(.object "java/lang/String")], returnType := some (.object "com/example/leanweave/leanweave/QosMeasure") }, accessFlags := 10, code := some k1c2 }
def k1c3 : Code := { maxStack := 4, maxLocals := 4, code := method_4_code, exceptionTable := #[], attributes := #[] }
def k1m3 : Method := { name := "put", desc := "([CILjava/lang/String;C)V", sig := { parameters := [(.array .char), .int, (.object "java/lang/String"), .char], returnType := none }, accessFlags := 10, code := some k1c3 }
def k1c4 : Code := { maxStack := 4, maxLocals := 3, code := method_5_code, exceptionTable := #[], attributes := #[] }
def k1m4 : Method := { name := "fill", desc := "([CLjava/lang/String;C)V", sig := { parameters := [(.array .char), (.object "java/lang/String"), .char], returnType := none }, accessFlags := 10, code := some k1c4 }
/-- com/example/leanweave/leanweave/QosMeasureOfColumnPinLaw -/
def k1 : Class := { plain "com/example/leanweave/leanweave/QosMeasureOfColumnPinLaw" (some 0) with
  accessFlags := 49
  interfaces := #[]
  cf := some (fileOf pool1 24 #[] #[{ accessFlags := 2, nameIndex := 5, descriptorIndex := 6, attributes := #[] }, { accessFlags := 9, nameIndex := 69, descriptorIndex := 70, attributes := #[] }, { accessFlags := 10, nameIndex := 43, descriptorIndex := 44, attributes := #[] }, { accessFlags := 10, nameIndex := 65, descriptorIndex := 66, attributes := #[] }, { accessFlags := 10, nameIndex := 27, descriptorIndex := 28, attributes := #[] }] 49 2 #[] #[])
  fields := #[]
  methods := #[k1m0, k1m1, k1m2, k1m3, k1m4]
  instanceTypes := #[]
  staticTypes := #[]
  resolved := Array.replicate 76 none
  statics := none }

def pool2 : Array CpInfo := pool [(1, .class_ 2), (0, u "java/io/Serializable"), (0, .class_ 4), (0, u "java/lang/Object")] 2

/-- java/io/Serializable -/
def k2 : Class := { plain "java/io/Serializable" (some 0) with
  accessFlags := 1537
  interfaces := #[]
  cf := some (fileOf pool2 1 #[] #[] 1537 3 #[] #[])
  fields := #[]
  methods := #[]
  instanceTypes := #[]
  staticTypes := #[]
  resolved := Array.replicate 7 none
  statics := none }

def pool3 : Array CpInfo := pool [(1, .class_ 2), (0, u "java/lang/Comparable"), (0, .class_ 4), (0, u "java/lang/Object")] 7

/-- java/lang/Comparable -/
def k3 : Class := { plain "java/lang/Comparable" (some 0) with
  accessFlags := 1537
  interfaces := #[]
  cf := some (fileOf pool3 1 #[] #[] 1537 3 #[] #[])
  fields := #[]
  methods := #[]
  instanceTypes := #[]
  staticTypes := #[]
  resolved := Array.replicate 12 none
  statics := none }

def pool4 : Array CpInfo := pool [(2, .class_ 4), (1, u "java/lang/CharSequence"), (42, .class_ 48), (0, u "java/lang/CharSequence$1CodePointIterator"), (10, .class_ 60), (0, u "java/lang/CharSequence$1CharIterator"), (5, .class_ 67), (0, u "java/lang/Object")] 63

/-- java/lang/CharSequence -/
def k4 : Class := { plain "java/lang/CharSequence" (some 0) with
  accessFlags := 1537
  interfaces := #[]
  cf := some (fileOf pool4 2 #[.nestMembers #[47, 59]] #[] 1537 66 #[] #[])
  fields := #[]
  methods := #[]
  instanceTypes := #[]
  staticTypes := #[]
  resolved := Array.replicate 131 none
  statics := none }

def pool5 : Array CpInfo := pool [(1, .class_ 2), (0, u "java/lang/constant/Constable"), (0, .class_ 4), (0, u "java/lang/Object")] 6

/-- java/lang/constant/Constable -/
def k5 : Class := { plain "java/lang/constant/Constable" (some 0) with
  accessFlags := 1537
  interfaces := #[]
  cf := some (fileOf pool5 1 #[] #[] 1537 3 #[] #[])
  fields := #[]
  methods := #[]
  instanceTypes := #[]
  staticTypes := #[]
  resolved := Array.replicate 11 none
  statics := none }

def pool6 : Array CpInfo := pool [(1, .class_ 2), (0, u "java/lang/constant/ConstantDesc"), (0, .class_ 4), (0, u "java/lang/Object")] 32

/-- java/lang/constant/ConstantDesc -/
def k6 : Class := { plain "java/lang/constant/ConstantDesc" (some 0) with
  accessFlags := 1537
  interfaces := #[]
  cf := some (fileOf pool6 1 #[] #[] 1537 3 #[] #[])
  fields := #[]
  methods := #[]
  instanceTypes := #[]
  staticTypes := #[]
  resolved := Array.replicate 37 none
  statics := none }

def pool7 : Array CpInfo := pool [(1, .methodref 2 3), (0, .class_ 4), (0, .nameAndType 5 6), (0, u "java/lang/Object"), (0, u "<init>"), (0, u "()V"), (0, .string 8), (0, u ""), (0, .fieldref 10 11), (0, .class_ 12), (0, .nameAndType 13 14), (0, u "java/lang/String"), (0, u "value"), (0, u "[B"), (0, .fieldref 10 16), (0, .nameAndType 17 18), (0, u "coder"), (0, u "B"), (2, u "hash"), (0, u "I"), (2, u "hashIsZero"), (0, u "Z"), (0, .methodref 10 28), (0, .nameAndType 5 29), (0, u "([CIILjava/lang/Void;)V"), (8, .fieldref 10 39), (0, .nameAndType 40 26), (0, u "COMPACT_STRINGS"), (1, .class_ 44), (1, u "java/lang/StringUTF16"), (0, u "compress"), (1, .methodref 42 48), (0, .nameAndType 49 50), (0, u "coderFromArrayLen"), (0, u "([BI)B"), (56, .class_ 109), (1, u "java/lang/StringLatin1"), (32, u "()Z"), (34, .methodref 42 178), (0, .nameAndType 45 179), (0, u "([CII)[B"), (154, u "()I"), (0, .methodref 10 336), (0, .nameAndType 17 337), (0, u "()B"), (25, u "([BI)C"), (27, u "(II)V"), (35, u "(I)C"), (64, .methodref 10 493), (0, .nameAndType 494 142), (0, u "isLatin1"), (0, .methodref 107 496), (0, .nameAndType 497 363), (0, u "charAt"), (3, u "checkIndex"), (5, u "length"), (33, .methodref 107 542), (0, .nameAndType 543 544), (0, u "equals"), (0, u "([B[B)Z"), (28, u "(Ljava/lang/Object;)Z"), (1, .class_ 576), (0, u "java/lang/CharSequence"), (22, u "CASE_INSENSITIVE_ORDER"), (0, u "Ljava/util/Comparator;"), (409, u "([C)V"), (42, .fieldref 1054 1055), (0, .class_ 1056), (0, .nameAndType 1057 1058), (0, u "jdk/internal/util/Preconditions"), (0, u "SIOOBE_FORMATTER"), (0, u "Ljava/util/function/BiFunction;"), (0, .methodref 1054 1060), (0, .nameAndType 501 1061), (0, u "(IILjava/util/function/BiFunction;)I"), (39, u "serialPersistentFields"), (0, u "[Ljava/io/ObjectStreamField;"), (0, .class_ 1104), (0, u "java/lang/String$CaseInsensitiveComparator"), (1, .class_ 1107), (0, u "java/io/Serializable"), (0, .class_ 1109), (0, u "java/lang/Comparable"), (0, .class_ 1111), (0, u "java/lang/constant/Constable"), (0, .class_ 1113), (0, u "java/lang/constant/ConstantDesc"), (2, u "serialVersionUID"), (0, u "J"), (3, u "REPL"), (0, u "C"), (2, u "LATIN1"), (1, u "UTF16")] 323

def k7m0 : Method := { name := "<init>", desc := "()V", sig := { parameters := [], returnType := none }, accessFlags := 1, code := none }
def k7c1 : Code := { maxStack := 5, maxLocals := 2, code := jdk_42_method_3_code, exceptionTable := #[], attributes := #[] }
def k7m1 : Method := { name := "<init>", desc := "([C)V", sig := { parameters := [(.array .char)], returnType := none }, accessFlags := 1, code := some k7c1 }
def k7c2 : Code := { maxStack := 2, maxLocals := 1, code := jdk_42_method_54_code, exceptionTable := #[], attributes := #[] }
def k7m2 : Method := { name := "length", desc := "()I", sig := { parameters := [], returnType := some .int }, accessFlags := 1, code := some k7c2 }
def k7c3 : Code := { maxStack := 2, maxLocals := 2, code := jdk_42_method_56_code, exceptionTable := #[], attributes := #[] }
def k7m3 : Method := { name := "charAt", desc := "(I)C", sig := { parameters := [.int], returnType := some .char }, accessFlags := 1, code := some k7c3 }
def k7c4 : Code := { maxStack := 2, maxLocals := 3, code := jdk_42_method_66_code, exceptionTable := #[], attributes := #[] }
def k7m4 : Method := { name := "equals", desc := "(Ljava/lang/Object;)Z", sig := { parameters := [(.object "java/lang/Object")], returnType := some .boolean }, accessFlags := 1, code := some k7c4 }
def k7c5 : Code := { maxStack := 4, maxLocals := 6, code := jdk_42_method_149_code, exceptionTable := #[], attributes := #[] }
def k7m5 : Method := { name := "<init>", desc := "([CIILjava/lang/Void;)V", sig := { parameters := [(.array .char), .int, .int, (.object "java/lang/Void")], returnType := none }, accessFlags := 2, code := some k7c5 }
def k7c6 : Code := { maxStack := 1, maxLocals := 1, code := jdk_42_method_152_code, exceptionTable := #[], attributes := #[] }
def k7m6 : Method := { name := "coder", desc := "()B", sig := { parameters := [], returnType := some .byte }, accessFlags := 0, code := some k7c6 }
def k7c7 : Code := { maxStack := 1, maxLocals := 1, code := jdk_42_method_154_code, exceptionTable := #[], attributes := #[] }
def k7m7 : Method := { name := "isLatin1", desc := "()Z", sig := { parameters := [], returnType := some .boolean }, accessFlags := 0, code := some k7c7 }
def k7c8 : Code := { maxStack := 3, maxLocals := 2, code := jdk_42_method_155_code, exceptionTable := #[], attributes := #[] }
def k7m8 : Method := { name := "checkIndex", desc := "(II)V", sig := { parameters := [.int, .int], returnType := none }, accessFlags := 8, code := some k7c8 }
/-- java/lang/String -/
def k7 : Class := { plain "java/lang/String" (some 0) with
  accessFlags := 49
  interfaces := #[2, 3, 4, 5, 6]
  cf := some (fileOf pool7 10 #[.nestMembers #[1103]] #[{ accessFlags := 1, nameIndex := 5, descriptorIndex := 6, attributes := #[] }, { accessFlags := 1, nameIndex := 5, descriptorIndex := 1010, attributes := #[] }, { accessFlags := 1, nameIndex := 507, descriptorIndex := 334, attributes := #[] }, { accessFlags := 1, nameIndex := 497, descriptorIndex := 427, attributes := #[] }, { accessFlags := 1, nameIndex := 543, descriptorIndex := 573, attributes := #[] }, { accessFlags := 2, nameIndex := 5, descriptorIndex := 29, attributes := #[] }, { accessFlags := 0, nameIndex := 17, descriptorIndex := 337, attributes := #[] }, { accessFlags := 0, nameIndex := 494, descriptorIndex := 142, attributes := #[] }, { accessFlags := 8, nameIndex := 501, descriptorIndex := 391, attributes := #[] }] 49 2 #[1106, 1108, 575, 1110, 1112] #[{ accessFlags := 18, nameIndex := 13, descriptorIndex := 14, attributes := #[] }, { accessFlags := 18, nameIndex := 17, descriptorIndex := 18, attributes := #[] }, { accessFlags := 2, nameIndex := 21, descriptorIndex := 22, attributes := #[] }, { accessFlags := 2, nameIndex := 25, descriptorIndex := 26, attributes := #[] }, { accessFlags := 26, nameIndex := 1116, descriptorIndex := 1117, attributes := #[] }, { accessFlags := 24, nameIndex := 40, descriptorIndex := 26, attributes := #[] }, { accessFlags := 26, nameIndex := 1101, descriptorIndex := 1102, attributes := #[] }, { accessFlags := 26, nameIndex := 1121, descriptorIndex := 1122, attributes := #[] }, { accessFlags := 25, nameIndex := 599, descriptorIndex := 600, attributes := #[] }, { accessFlags := 24, nameIndex := 1125, descriptorIndex := 18, attributes := #[] }, { accessFlags := 24, nameIndex := 1127, descriptorIndex := 18, attributes := #[] }])
  fields := #[{ name := "value", type := (.array .byte), accessFlags := 18, slot := 0, constantValue := 0 }, { name := "coder", type := .byte, accessFlags := 18, slot := 1, constantValue := 0 }, { name := "hash", type := .int, accessFlags := 2, slot := 2, constantValue := 0 }, { name := "hashIsZero", type := .boolean, accessFlags := 2, slot := 3, constantValue := 0 }, { name := "serialVersionUID", type := .long, accessFlags := 26, slot := 0, constantValue := 0 }, { name := "COMPACT_STRINGS", type := .boolean, accessFlags := 24, slot := 1, constantValue := 0 }, { name := "serialPersistentFields", type := (.array (.object "java/io/ObjectStreamField")), accessFlags := 26, slot := 2, constantValue := 0 }, { name := "REPL", type := .char, accessFlags := 26, slot := 3, constantValue := 0 }, { name := "CASE_INSENSITIVE_ORDER", type := (.object "java/util/Comparator"), accessFlags := 25, slot := 4, constantValue := 0 }, { name := "LATIN1", type := .byte, accessFlags := 24, slot := 5, constantValue := 0 }, { name := "UTF16", type := .byte, accessFlags := 24, slot := 6, constantValue := 0 }]
  methods := #[k7m0, k7m1, k7m2, k7m3, k7m4, k7m5, k7m6, k7m7, k7m8]
  instanceTypes := #[(.array .byte), .byte, .int, .boolean]
  staticTypes := #[.long, .boolean, (.array (.object "java/io/ObjectStreamField")), .char, (.object "java/util/Comparator"), .byte, .byte]
  resolved := Array.replicate 1451 none
  statics := some 0 }

def pool8 : Array CpInfo := pool [(1, .class_ 2), (0, u "java/lang/String"), (1, .class_ 6), (1, u "java/lang/Object"), (0, u "<init>"), (0, u "()V"), (0, .methodref 1 10), (0, .nameAndType 11 12), (0, u "checkIndex"), (0, u "(II)V"), (1, .class_ 16), (1, u "java/lang/StringLatin1"), (36, u "([BI)C"), (67, u "$assertionsDisabled"), (0, u "Z"), (98, .class_ 223), (1, u "java/lang/StringLatin1$LinesSpliterator"), (28, u "charAt"), (28, u "equals"), (0, u "([B[B)Z"), (107, .class_ 391), (0, u "java/lang/StringLatin1$CharsSpliterator")] 3

def k8m0 : Method := { name := "<init>", desc := "()V", sig := { parameters := [], returnType := none }, accessFlags := 0, code := none }
def k8c1 : Code := { maxStack := 2, maxLocals := 2, code := jdk_43_method_2_code, exceptionTable := #[], attributes := #[] }
def k8m1 : Method := { name := "charAt", desc := "([BI)C", sig := { parameters := [(.array .byte), .int], returnType := some .char }, accessFlags := 9, code := some k8c1 }
def k8c2 : Code := { maxStack := 3, maxLocals := 3, code := jdk_43_method_13_code, exceptionTable := #[], attributes := #[] }
def k8m2 : Method := { name := "equals", desc := "([B[B)Z", sig := { parameters := [(.array .byte), (.array .byte)], returnType := some .boolean }, accessFlags := 9, code := some k8c2 }
/-- java/lang/StringLatin1 -/
def k8 : Class := { plain "java/lang/StringLatin1" (some 0) with
  accessFlags := 48
  interfaces := #[]
  cf := some (fileOf pool8 14 #[.nestMembers #[390, 221]] #[{ accessFlags := 0, nameIndex := 7, descriptorIndex := 8, attributes := #[] }, { accessFlags := 9, nameIndex := 252, descriptorIndex := 53, attributes := #[] }, { accessFlags := 9, nameIndex := 281, descriptorIndex := 282, attributes := #[] }] 48 4 #[] #[{ accessFlags := 4120, nameIndex := 121, descriptorIndex := 122, attributes := #[] }])
  fields := #[{ name := "$assertionsDisabled", type := .boolean, accessFlags := 4120, slot := 0, constantValue := 0 }]
  methods := #[k8m0, k8m1, k8m2]
  instanceTypes := #[]
  staticTypes := #[.boolean]
  resolved := Array.replicate 395 none
  statics := none }

def pool9 : Array CpInfo := pool [(2, .class_ 4), (1, u "java/lang/Object"), (0, u "<init>"), (0, u "()V"), (17, .class_ 26), (1, u "jdk/internal/util/Preconditions"), (6, u "checkIndex"), (21, .class_ 56), (0, u "jdk/internal/util/Preconditions$4"), (57, .class_ 115), (0, u "jdk/internal/util/Preconditions$1"), (7, u "SIOOBE_FORMATTER"), (0, u "Ljava/util/function/BiFunction;"), (0, .class_ 126), (0, u "jdk/internal/util/Preconditions$2"), (3, u "AIOOBE_FORMATTER"), (0, .class_ 132), (0, u "jdk/internal/util/Preconditions$3"), (3, u "IOOBE_FORMATTER"), (41, u "(IILjava/util/function/BiFunction;)I")] 15

def k9m0 : Method := { name := "<init>", desc := "()V", sig := { parameters := [], returnType := none }, accessFlags := 1, code := none }
def k9c1 : Code := { maxStack := 3, maxLocals := 3, code := jdk_41_method_11_code, exceptionTable := #[], attributes := #[] }
def k9m1 : Method := { name := "checkIndex", desc := "(IILjava/util/function/BiFunction;)I", sig := { parameters := [.int, .int, (.object "java/util/function/BiFunction")], returnType := some .int }, accessFlags := 9, code := some k9c1 }
/-- jdk/internal/util/Preconditions -/
def k9 : Class := { plain "jdk/internal/util/Preconditions" (some 0) with
  accessFlags := 33
  interfaces := #[]
  cf := some (fileOf pool9 24 #[.nestMembers #[55, 131, 125, 114]] #[{ accessFlags := 1, nameIndex := 5, descriptorIndex := 6, attributes := #[] }, { accessFlags := 9, nameIndex := 33, descriptorIndex := 178, attributes := #[] }] 33 2 #[] #[{ accessFlags := 25, nameIndex := 123, descriptorIndex := 124, attributes := #[] }, { accessFlags := 25, nameIndex := 130, descriptorIndex := 124, attributes := #[] }, { accessFlags := 25, nameIndex := 136, descriptorIndex := 124, attributes := #[] }])
  fields := #[{ name := "SIOOBE_FORMATTER", type := (.object "java/util/function/BiFunction"), accessFlags := 25, slot := 0, constantValue := 0 }, { name := "AIOOBE_FORMATTER", type := (.object "java/util/function/BiFunction"), accessFlags := 25, slot := 1, constantValue := 0 }, { name := "IOOBE_FORMATTER", type := (.object "java/util/function/BiFunction"), accessFlags := 25, slot := 2, constantValue := 0 }]
  methods := #[k9m0, k9m1]
  instanceTypes := #[]
  staticTypes := #[(.object "java/util/function/BiFunction"), (.object "java/util/function/BiFunction"), (.object "java/util/function/BiFunction")]
  resolved := Array.replicate 194 none
  statics := some 1 }

def pool10 : Array CpInfo := pool [(6, .class_ 8), (1, u "java/lang/Object"), (0, u "<init>"), (0, u "()V"), (1, .class_ 14), (1, u "java/lang/StringUTF16"), (31, u "$assertionsDisabled"), (0, u "Z"), (13, u "HI_BYTE_SHIFT"), (0, u "I"), (2, u "LO_BYTE_SHIFT"), (49, .methodref 12 116), (0, .nameAndType 117 118), (0, u "compress"), (0, u "([CI[BII)I"), (3, u "([CII)[B"), (138, u "coderFromArrayLen"), (0, u "([BI)B"), (106, .class_ 371), (1, u "java/lang/StringUTF16$LinesSpliterator"), (58, u "MAX_LENGTH"), (196, .class_ 628), (0, u "java/lang/StringUTF16$CodePointsSpliterator"), (0, .class_ 630), (0, u "java/lang/StringUTF16$CharsSpliterator")] 4

def k10m0 : Method := { name := "<init>", desc := "()V", sig := { parameters := [], returnType := none }, accessFlags := 0, code := none }
def k10c1 : Code := { maxStack := 2, maxLocals := 2, code := jdk_52_method_15_code, exceptionTable := #[], attributes := #[] }
def k10m1 : Method := { name := "coderFromArrayLen", desc := "([BI)B", sig := { parameters := [(.array .byte), .int], returnType := some .byte }, accessFlags := 8, code := some k10c1 }
def k10c2 : Code := { maxStack := 5, maxLocals := 6, code := jdk_52_method_16_code, exceptionTable := #[], attributes := #[] }
def k10m2 : Method := { name := "compress", desc := "([CII)[B", sig := { parameters := [(.array .char), .int, .int], returnType := some (.array .byte) }, accessFlags := 9, code := some k10c2 }
def k10c3 : Code := { maxStack := 3, maxLocals := 7, code := jdk_52_method_21_code, exceptionTable := #[], attributes := #[] }
def k10m3 : Method := { name := "compress", desc := "([CI[BII)I", sig := { parameters := [(.array .char), .int, (.array .byte), .int, .int], returnType := some .int }, accessFlags := 9, code := some k10c3 }
/-- java/lang/StringUTF16 -/
def k10 : Class := { plain "java/lang/StringUTF16" (some 0) with
  accessFlags := 48
  interfaces := #[]
  cf := some (fileOf pool10 12 #[.nestMembers #[627, 629, 369]] #[{ accessFlags := 0, nameIndex := 9, descriptorIndex := 10, attributes := #[] }, { accessFlags := 8, nameIndex := 261, descriptorIndex := 262, attributes := #[] }, { accessFlags := 9, nameIndex := 117, descriptorIndex := 122, attributes := #[] }, { accessFlags := 9, nameIndex := 117, descriptorIndex := 118, attributes := #[] }] 48 6 #[] #[{ accessFlags := 26, nameIndex := 61, descriptorIndex := 62, attributes := #[] }, { accessFlags := 26, nameIndex := 65, descriptorIndex := 62, attributes := #[] }, { accessFlags := 24, nameIndex := 430, descriptorIndex := 62, attributes := #[] }, { accessFlags := 4120, nameIndex := 46, descriptorIndex := 47, attributes := #[] }])
  fields := #[{ name := "HI_BYTE_SHIFT", type := .int, accessFlags := 26, slot := 0, constantValue := 0 }, { name := "LO_BYTE_SHIFT", type := .int, accessFlags := 26, slot := 1, constantValue := 0 }, { name := "MAX_LENGTH", type := .int, accessFlags := 24, slot := 2, constantValue := 0 }, { name := "$assertionsDisabled", type := .boolean, accessFlags := 4120, slot := 3, constantValue := 0 }]
  methods := #[k10m0, k10m1, k10m2, k10m3]
  instanceTypes := #[]
  staticTypes := #[.int, .int, .int, .boolean]
  resolved := Array.replicate 635 none
  statics := none }

def pool11 : Array CpInfo := pool [(2, .class_ 4), (1, u "java/lang/Enum"), (0, u "name"), (0, u "Ljava/lang/String;"), (2, u "ordinal"), (0, u "I"), (1, .class_ 14), (1, u "java/lang/Object"), (4, u "hash"), (86, .class_ 108), (1, u "java/lang/Enum$EnumDesc"), (2, .class_ 112), (0, u "java/lang/constant/Constable"), (0, .class_ 114), (0, u "java/lang/Comparable"), (0, .class_ 116), (0, u "java/io/Serializable")] 87

/-- java/lang/Enum -/
def k11 : Class := { plain "java/lang/Enum" (some 0) with
  accessFlags := 1057
  interfaces := #[5, 3, 2]
  cf := some (fileOf pool11 2 #[.nestMembers #[106]] #[] 1057 12 #[111, 113, 115] #[{ accessFlags := 18, nameIndex := 5, descriptorIndex := 6, attributes := #[] }, { accessFlags := 18, nameIndex := 9, descriptorIndex := 10, attributes := #[] }, { accessFlags := 2, nameIndex := 19, descriptorIndex := 10, attributes := #[] }])
  fields := #[{ name := "name", type := (.object "java/lang/String"), accessFlags := 18, slot := 0, constantValue := 0 }, { name := "ordinal", type := .int, accessFlags := 18, slot := 1, constantValue := 0 }, { name := "hash", type := .int, accessFlags := 2, slot := 2, constantValue := 0 }]
  methods := #[]
  instanceTypes := #[(.object "java/lang/String"), .int, .int]
  staticTypes := #[]
  resolved := Array.replicate 204 none
  statics := none }

def pool12 : Array CpInfo := pool [(1, .class_ 2), (0, u "com/example/leanweave/leanweave/QosMeasure"), (2, u "RESPONSE_TIME"), (0, u "Lcom/example/leanweave/leanweave/QosMeasure;"), (2, u "THROUGHPUT"), (2, u "COST"), (0, .fieldref 1 14), (0, .nameAndType 15 16), (0, u "$VALUES"), (0, u "[Lcom/example/leanweave/leanweave/QosMeasure;"), (0, .methodref 18 19), (0, .class_ 16), (0, .nameAndType 20 21), (0, u "clone"), (0, u "()Ljava/lang/Object;"), (1, .class_ 25), (1, u "java/lang/Enum"), (6, .fieldref 1 33), (0, .nameAndType 34 35), (0, u "column"), (0, u "Ljava/lang/String;"), (0, .methodref 1 37), (0, .nameAndType 38 39), (0, u "values"), (0, u "()[Lcom/example/leanweave/leanweave/QosMeasure;"), (0, .methodref 41 42), (0, .class_ 43), (0, .nameAndType 44 45), (0, u "java/lang/String"), (0, u "equals"), (0, u "(Ljava/lang/Object;)Z"), (0, .methodref 47 48), (0, .class_ 49), (0, .nameAndType 50 51), (0, u "java/util/Optional"), (0, u "of"), (0, u "(Ljava/lang/Object;)Ljava/util/Optional;"), (0, .methodref 47 53), (0, .nameAndType 54 55), (0, u "empty"), (0, u "()Ljava/util/Optional;"), (22, u "ofColumn"), (0, u "(Ljava/lang/String;)Ljava/util/Optional;")] 7

def k12c0 : Code := { maxStack := 1, maxLocals := 0, code := prog_22_method_1_code, exceptionTable := #[], attributes := #[] }
def k12m0 : Method := { name := "values", desc := "()[Lcom/example/leanweave/leanweave/QosMeasure;", sig := { parameters := [], returnType := some (.array (.object "com/example/leanweave/leanweave/QosMeasure")) }, accessFlags := 9, code := some k12c0 }
def k12c1 : Code := { maxStack := 2, maxLocals := 5, code := prog_22_method_5_code, exceptionTable := #[], attributes := #[] }
def k12m1 : Method := { name := "ofColumn", desc := "(Ljava/lang/String;)Ljava/util/Optional;", sig := { parameters := [(.object "java/lang/String")], returnType := some (.object "java/util/Optional") }, accessFlags := 9, code := some k12c1 }
/-- com/example/leanweave/leanweave/QosMeasure -/
def k12 : Class := { plain "com/example/leanweave/leanweave/QosMeasure" (some 11) with
  accessFlags := 16433
  interfaces := #[]
  cf := some (fileOf pool12 1 #[] #[{ accessFlags := 9, nameIndex := 38, descriptorIndex := 39, attributes := #[] }, { accessFlags := 9, nameIndex := 78, descriptorIndex := 79, attributes := #[] }] 16433 23 #[] #[{ accessFlags := 16409, nameIndex := 5, descriptorIndex := 6, attributes := #[] }, { accessFlags := 16409, nameIndex := 9, descriptorIndex := 6, attributes := #[] }, { accessFlags := 16409, nameIndex := 12, descriptorIndex := 6, attributes := #[] }, { accessFlags := 18, nameIndex := 34, descriptorIndex := 35, attributes := #[] }, { accessFlags := 4122, nameIndex := 15, descriptorIndex := 16, attributes := #[] }])
  fields := #[{ name := "RESPONSE_TIME", type := (.object "com/example/leanweave/leanweave/QosMeasure"), accessFlags := 16409, slot := 0, constantValue := 0 }, { name := "THROUGHPUT", type := (.object "com/example/leanweave/leanweave/QosMeasure"), accessFlags := 16409, slot := 1, constantValue := 0 }, { name := "COST", type := (.object "com/example/leanweave/leanweave/QosMeasure"), accessFlags := 16409, slot := 2, constantValue := 0 }, { name := "column", type := (.object "java/lang/String"), accessFlags := 18, slot := 3, constantValue := 0 }, { name := "$VALUES", type := (.array (.object "com/example/leanweave/leanweave/QosMeasure")), accessFlags := 4122, slot := 3, constantValue := 0 }]
  methods := #[k12m0, k12m1]
  instanceTypes := #[(.object "java/lang/String"), .int, .int, (.object "java/lang/String")]
  staticTypes := #[(.object "com/example/leanweave/leanweave/QosMeasure"), (.object "com/example/leanweave/leanweave/QosMeasure"), (.object "com/example/leanweave/leanweave/QosMeasure"), (.array (.object "com/example/leanweave/leanweave/QosMeasure"))]
  resolved := Array.replicate 87 none
  statics := some 2 }

def pool13 : Array CpInfo := pool [(1, .class_ 2), (0, u "java/lang/Cloneable"), (0, .class_ 4), (0, u "java/lang/Object")] 2

/-- java/lang/Cloneable -/
def k13 : Class := { plain "java/lang/Cloneable" (some 0) with
  accessFlags := 1537
  interfaces := #[]
  cf := some (fileOf pool13 1 #[] #[] 1537 3 #[] #[])
  fields := #[]
  methods := #[]
  instanceTypes := #[]
  staticTypes := #[]
  resolved := Array.replicate 7 none
  statics := none }

def pool14 : Array CpInfo := pool [(1, .fieldref 2 3), (0, .class_ 4), (0, .nameAndType 5 6), (0, u "java/util/Optional"), (0, u "EMPTY"), (0, u "Ljava/util/Optional;"), (0, .methodref 8 9), (0, .class_ 10), (0, .nameAndType 11 12), (0, u "java/lang/Object"), (0, u "<init>"), (0, u "()V"), (0, .fieldref 2 14), (0, .nameAndType 15 16), (0, u "value"), (0, u "Ljava/lang/Object;"), (0, .methodref 18 19), (0, .class_ 20), (0, .nameAndType 21 22), (0, u "java/util/Objects"), (0, u "requireNonNull"), (0, u "(Ljava/lang/Object;)Ljava/lang/Object;"), (0, .methodref 2 24), (0, .nameAndType 11 25), (0, u "(Ljava/lang/Object;)V"), (29, u "empty"), (0, u "()Ljava/util/Optional;"), (8, u "(Ljava/lang/Object;)Ljava/util/Optional;"), (16, u "of"), (82, u "orElse")] 21

def k14c0 : Code := { maxStack := 1, maxLocals := 1, code := jdk_32_method_1_code, exceptionTable := #[], attributes := #[] }
def k14m0 : Method := { name := "empty", desc := "()Ljava/util/Optional;", sig := { parameters := [], returnType := some (.object "java/util/Optional") }, accessFlags := 9, code := some k14c0 }
def k14c1 : Code := { maxStack := 2, maxLocals := 2, code := jdk_32_method_2_code, exceptionTable := #[], attributes := #[] }
def k14m1 : Method := { name := "<init>", desc := "(Ljava/lang/Object;)V", sig := { parameters := [(.object "java/lang/Object")], returnType := none }, accessFlags := 2, code := some k14c1 }
def k14c2 : Code := { maxStack := 3, maxLocals := 1, code := jdk_32_method_3_code, exceptionTable := #[], attributes := #[] }
def k14m2 : Method := { name := "of", desc := "(Ljava/lang/Object;)Ljava/util/Optional;", sig := { parameters := [(.object "java/lang/Object")], returnType := some (.object "java/util/Optional") }, accessFlags := 9, code := some k14c2 }
def k14c3 : Code := { maxStack := 1, maxLocals := 2, code := jdk_32_method_15_code, exceptionTable := #[], attributes := #[] }
def k14m3 : Method := { name := "orElse", desc := "(Ljava/lang/Object;)Ljava/lang/Object;", sig := { parameters := [(.object "java/lang/Object")], returnType := some (.object "java/lang/Object") }, accessFlags := 1, code := some k14c3 }
/-- java/util/Optional -/
def k14 : Class := { plain "java/util/Optional" (some 0) with
  accessFlags := 49
  interfaces := #[]
  cf := some (fileOf pool14 2 #[] #[{ accessFlags := 9, nameIndex := 55, descriptorIndex := 56, attributes := #[] }, { accessFlags := 2, nameIndex := 11, descriptorIndex := 25, attributes := #[] }, { accessFlags := 9, nameIndex := 82, descriptorIndex := 65, attributes := #[] }, { accessFlags := 1, nameIndex := 165, descriptorIndex := 22, attributes := #[] }] 49 8 #[] #[{ accessFlags := 26, nameIndex := 5, descriptorIndex := 6, attributes := #[] }, { accessFlags := 18, nameIndex := 15, descriptorIndex := 16, attributes := #[] }])
  fields := #[{ name := "EMPTY", type := (.object "java/util/Optional"), accessFlags := 26, slot := 0, constantValue := 0 }, { name := "value", type := (.object "java/lang/Object"), accessFlags := 18, slot := 0, constantValue := 0 }]
  methods := #[k14m0, k14m1, k14m2, k14m3]
  instanceTypes := #[(.object "java/lang/Object")]
  staticTypes := #[(.object "java/util/Optional")]
  resolved := Array.replicate 187 none
  statics := some 3 }

def pool15 : Array CpInfo := pool [(2, .class_ 4), (1, u "java/lang/Object"), (0, u "<init>"), (0, u "()V"), (35, .class_ 44), (1, u "java/util/Objects"), (0, u "requireNonNull"), (0, u "(Ljava/lang/Object;)Ljava/lang/Object;")] 137

def k15m0 : Method := { name := "<init>", desc := "()V", sig := { parameters := [], returnType := none }, accessFlags := 2, code := none }
def k15c1 : Code := { maxStack := 2, maxLocals := 1, code := jdk_31_method_10_code, exceptionTable := #[], attributes := #[] }
def k15m1 : Method := { name := "requireNonNull", desc := "(Ljava/lang/Object;)Ljava/lang/Object;", sig := { parameters := [(.object "java/lang/Object")], returnType := some (.object "java/lang/Object") }, accessFlags := 9, code := some k15c1 }
/-- java/util/Objects -/
def k15 : Class := { plain "java/util/Objects" (some 0) with
  accessFlags := 49
  interfaces := #[]
  cf := some (fileOf pool15 42 #[] #[{ accessFlags := 2, nameIndex := 5, descriptorIndex := 6, attributes := #[] }, { accessFlags := 9, nameIndex := 45, descriptorIndex := 46, attributes := #[] }] 49 2 #[] #[])
  fields := #[]
  methods := #[k15m0, k15m1]
  instanceTypes := #[]
  staticTypes := #[]
  resolved := Array.replicate 184 none
  statics := none }

def pool16 : Array CpInfo := pool [(9, u "<init>"), (6, .class_ 18), (1, u "java/lang/Object"), (0, u "()V"), (1, .class_ 23), (1, u "jdk/internal/util/ArraysSupport"), (0, u "LOG2_ARRAY_LONG_INDEX_SCALE"), (0, u "I"), (2, u "U"), (0, u "Ljdk/internal/misc/Unsafe;"), (8, u "BIG_ENDIAN"), (0, u "Z"), (8, u "LOG2_BYTE_BIT_SIZE"), (4, u "LOG2_ARRAY_INT_INDEX_SCALE"), (54, u "JLA"), (0, u "Ljdk/internal/access/JavaLangAccess;"), (11, u "LOG2_ARRAY_BOOLEAN_INDEX_SCALE"), (9, u "LOG2_ARRAY_BYTE_INDEX_SCALE"), (5, u "LOG2_ARRAY_CHAR_INDEX_SCALE"), (5, u "LOG2_ARRAY_SHORT_INDEX_SCALE"), (18, u "LOG2_ARRAY_FLOAT_INDEX_SCALE"), (24, u "LOG2_ARRAY_DOUBLE_INDEX_SCALE"), (89, u "T_BOOLEAN"), (2, u "T_CHAR"), (1, u "T_FLOAT"), (1, u "T_DOUBLE"), (1, u "T_BYTE"), (1, u "T_SHORT"), (1, u "T_INT"), (1, u "T_LONG"), (1, u "SOFT_MAX_ARRAY_LENGTH")] 83

def k16m0 : Method := { name := "<init>", desc := "()V", sig := { parameters := [], returnType := none }, accessFlags := 2, code := none }
/-- jdk/internal/util/ArraysSupport -/
def k16 : Class := { plain "jdk/internal/util/ArraysSupport" (some 0) with
  accessFlags := 33
  interfaces := #[]
  cf := some (fileOf pool16 21 #[] #[{ accessFlags := 2, nameIndex := 9, descriptorIndex := 19, attributes := #[] }] 33 16 #[] #[{ accessFlags := 24, nameIndex := 28, descriptorIndex := 29, attributes := #[] }, { accessFlags := 26, nameIndex := 38, descriptorIndex := 39, attributes := #[] }, { accessFlags := 25, nameIndex := 121, descriptorIndex := 25, attributes := #[] }, { accessFlags := 25, nameIndex := 131, descriptorIndex := 25, attributes := #[] }, { accessFlags := 25, nameIndex := 137, descriptorIndex := 25, attributes := #[] }, { accessFlags := 25, nameIndex := 143, descriptorIndex := 25, attributes := #[] }, { accessFlags := 25, nameIndex := 53, descriptorIndex := 25, attributes := #[] }, { accessFlags := 25, nameIndex := 24, descriptorIndex := 25, attributes := #[] }, { accessFlags := 25, nameIndex := 162, descriptorIndex := 25, attributes := #[] }, { accessFlags := 25, nameIndex := 187, descriptorIndex := 25, attributes := #[] }, { accessFlags := 26, nameIndex := 48, descriptorIndex := 25, attributes := #[] }, { accessFlags := 25, nameIndex := 277, descriptorIndex := 25, attributes := #[] }, { accessFlags := 25, nameIndex := 280, descriptorIndex := 25, attributes := #[] }, { accessFlags := 25, nameIndex := 282, descriptorIndex := 25, attributes := #[] }, { accessFlags := 25, nameIndex := 284, descriptorIndex := 25, attributes := #[] }, { accessFlags := 25, nameIndex := 286, descriptorIndex := 25, attributes := #[] }, { accessFlags := 25, nameIndex := 288, descriptorIndex := 25, attributes := #[] }, { accessFlags := 25, nameIndex := 290, descriptorIndex := 25, attributes := #[] }, { accessFlags := 25, nameIndex := 292, descriptorIndex := 25, attributes := #[] }, { accessFlags := 26, nameIndex := 108, descriptorIndex := 109, attributes := #[] }, { accessFlags := 25, nameIndex := 294, descriptorIndex := 25, attributes := #[] }])
  fields := #[{ name := "U", type := (.object "jdk/internal/misc/Unsafe"), accessFlags := 24, slot := 0, constantValue := 0 }, { name := "BIG_ENDIAN", type := .boolean, accessFlags := 26, slot := 1, constantValue := 0 }, { name := "LOG2_ARRAY_BOOLEAN_INDEX_SCALE", type := .int, accessFlags := 25, slot := 2, constantValue := 0 }, { name := "LOG2_ARRAY_BYTE_INDEX_SCALE", type := .int, accessFlags := 25, slot := 3, constantValue := 0 }, { name := "LOG2_ARRAY_CHAR_INDEX_SCALE", type := .int, accessFlags := 25, slot := 4, constantValue := 0 }, { name := "LOG2_ARRAY_SHORT_INDEX_SCALE", type := .int, accessFlags := 25, slot := 5, constantValue := 0 }, { name := "LOG2_ARRAY_INT_INDEX_SCALE", type := .int, accessFlags := 25, slot := 6, constantValue := 0 }, { name := "LOG2_ARRAY_LONG_INDEX_SCALE", type := .int, accessFlags := 25, slot := 7, constantValue := 0 }, { name := "LOG2_ARRAY_FLOAT_INDEX_SCALE", type := .int, accessFlags := 25, slot := 8, constantValue := 0 }, { name := "LOG2_ARRAY_DOUBLE_INDEX_SCALE", type := .int, accessFlags := 25, slot := 9, constantValue := 0 }, { name := "LOG2_BYTE_BIT_SIZE", type := .int, accessFlags := 26, slot := 10, constantValue := 0 }, { name := "T_BOOLEAN", type := .int, accessFlags := 25, slot := 11, constantValue := 0 }, { name := "T_CHAR", type := .int, accessFlags := 25, slot := 12, constantValue := 0 }, { name := "T_FLOAT", type := .int, accessFlags := 25, slot := 13, constantValue := 0 }, { name := "T_DOUBLE", type := .int, accessFlags := 25, slot := 14, constantValue := 0 }, { name := "T_BYTE", type := .int, accessFlags := 25, slot := 15, constantValue := 0 }, { name := "T_SHORT", type := .int, accessFlags := 25, slot := 16, constantValue := 0 }, { name := "T_INT", type := .int, accessFlags := 25, slot := 17, constantValue := 0 }, { name := "T_LONG", type := .int, accessFlags := 25, slot := 18, constantValue := 0 }, { name := "JLA", type := (.object "jdk/internal/access/JavaLangAccess"), accessFlags := 26, slot := 19, constantValue := 0 }, { name := "SOFT_MAX_ARRAY_LENGTH", type := .int, accessFlags := 25, slot := 20, constantValue := 0 }]
  methods := #[k16m0]
  instanceTypes := #[]
  staticTypes := #[(.object "jdk/internal/misc/Unsafe"), .boolean, .int, .int, .int, .int, .int, .int, .int, .int, .int, .int, .int, .int, .int, .int, .int, .int, .int, (.object "jdk/internal/access/JavaLangAccess"), .int]
  resolved := Array.replicate 378 none
  statics := none }

/-- the primitive byte -/
def k17 : Class := { plain "byte" none with kind := .primitive 'B', accessFlags := 0x411 }
/-- [B -/
def k18 : Class := { plain "[B" (some 0) with kind := .array 17 .byte, interfaces := #[13, 2], accessFlags := 1041 }

/-- the primitive char -/
def k19 : Class := { plain "char" none with kind := .primitive 'C', accessFlags := 0x411 }
/-- [C -/
def k20 : Class := { plain "[C" (some 0) with kind := .array 19 .char, interfaces := #[13, 2], accessFlags := 1041 }

/-- the primitive int -/
def k21 : Class := { plain "int" none with kind := .primitive 'I', accessFlags := 0x411 }
/-- [I -/
def k22 : Class := { plain "[I" (some 0) with kind := .array 21 .int, interfaces := #[13, 2], accessFlags := 1041 }

/-- [Lcom/example/leanweave/leanweave/QosMeasure; -/
def k23 : Class := { plain "[Lcom/example/leanweave/leanweave/QosMeasure;" (some 0) with kind := .array 12 (.object "com/example/leanweave/leanweave/QosMeasure"), interfaces := #[13, 2], accessFlags := 1041 }

def heap : Heap := #[{ cls := 7, slots := #[.long 0, .int 1, .null, .int 0, .null, .int 0, .int 0], vm := .statics 7 },
  { cls := 9, slots := #[.null, .null, .null], vm := .statics 9 },
  { cls := 12, slots := #[.ref 11, .ref 12, .ref 13, .ref 4], vm := .statics 12 },
  { cls := 14, slots := #[.ref 14], vm := .statics 14 },
  { cls := 23, slots := #[.ref 11, .ref 12, .ref 13], vm := .none },
  { cls := 18, slots := #[.int 114, .int 101, .int 115, .int 112, .int 111, .int 110, .int 115, .int 101, .int 95, .int 116, .int 105, .int 109, .int 101, .int 95, .int 109, .int 115], vm := .none },
  { cls := 18, slots := #[.int 116, .int 104, .int 114, .int 111, .int 117, .int 103, .int 104, .int 112, .int 117, .int 116, .int 95, .int 112, .int 101, .int 114, .int 95, .int 115], vm := .none },
  { cls := 18, slots := #[.int 99, .int 111, .int 115, .int 116], vm := .none },
  { cls := 7, slots := #[.ref 5, .int 0, .int 0, .int 0], vm := .none },
  { cls := 7, slots := #[.ref 6, .int 0, .int 0, .int 0], vm := .none },
  { cls := 7, slots := #[.ref 7, .int 0, .int 0, .int 0], vm := .none },
  { cls := 12, slots := #[.null, .int 0, .int 0, .ref 8], vm := .none },
  { cls := 12, slots := #[.null, .int 1, .int 0, .ref 9], vm := .none },
  { cls := 12, slots := #[.null, .int 2, .int 0, .ref 10], vm := .none },
  { cls := 14, slots := #[.null], vm := .none }]
def classes : Array Class := #[k0, k1, k2, k3, k4, k5, k6, k7, k8, k9, k10, k11, k12, k13, k14, k15, k16, k17, k18, k19, k20, k21, k22, k23]
def interned : List (Array UInt16 × Addr) := []
def slotsUsed : Nat := 79
def theMethod : MethodId := ⟨1, 1⟩
def args0 : Array Value := #[.int 5, .int 3, .int 5, .int 3, .int 7, .int 3]
def aboutOver (below : List Frame) : State where
  vm := { classes := classes, interned := interned.toArray }
  heap := heap
  slotsUsed := slotsUsed
  threads := #[{ frames := .invoking theMethod args0 :: below }]
def below0 : List Frame := [.native { method := ⟨0, 0⟩, args := #[] }]
def about1 : State := aboutOver below0
def p0 : Program := .bare "" "" ""
def e0 : Env := launch0.env 0 0 0
theorem w_frames : about1.frames = Frame.invoking theMethod args0 :: below0 := rfl
set_option maxRecDepth 65536 in
theorem w_args : argsFit about1.vm theMethod args0 = true := by decide +kernel
set_option maxRecDepth 65536 in
theorem w_heap : heapFits about1 = true := by decide +kernel
set_option maxRecDepth 65536 in
theorem w_runnable : about1.curStatus? = some .runnable := by decide +kernel
set_option maxRecDepth 65536 in
theorem w_alone : about1.alone = true := by decide +kernel
set_option maxRecDepth 65536 in
theorem w_named : about1.methodNamed? x = some theMethod := by decide +kernel
set_option maxRecDepth 65536 in
theorem w_hears : about1.hears theMethod below0 = true := by decide +kernel
set_option maxRecDepth 65536 in
theorem w_ripe : about1.ripe theMethod args0 below0 = true := by decide +kernel
theorem w_running : about1.status = .running := rfl
set_option maxRecDepth 65536 in
theorem w_room : about1.hasRoom e0.platform room_1 = true :=
  launch0.hasRoom_least _ room_1 (by decide +kernel) (by decide +kernel) (by decide +kernel) (by decide +kernel) (by decide +kernel) (by decide +kernel)
theorem allAtoms_all (ts : List Jvm.Cond) (a : Array Jvm.Value) (st : Jvm.State) : (allAtoms ts).before a st = ts.all (fun c => c.before a st) := by
  induction ts with
  | nil => rfl
  | cons c t ih =>
    show (Jvm.Cond.and c (allAtoms t)).before a st = _
    rw [Jvm.Cond.before_and, ih, List.all_cons]
def words1 : List Jvm.Cond := Jvm.Cond.code x code maxLocals ret :: tables_1
/-- a 'code' word, met by the world's own term for the bytes: nothing is compared byte by byte -/
theorem code_word {y : MethodName} {bytes : ByteArray} {mx : Nat} {rt : Option FieldType} {a : Array Value} {s : State} {m : MethodId} {meth : Method} {c : Code} (h1 : s.methodNamed? y = some m) (h2 : s.vm.method? m = some meth) (h3 : meth.code = some c) (h4 : c.code = bytes)
    (h5 : (c.maxLocals == mx && c.exceptionTable.isEmpty && decide (c.maxStack ≤ mostOperands) && decide (meth.sig.returnType = rt) && !meth.locks && decide (parseMethodDescriptor y.desc = some meth.sig)) = true) : (Jvm.Cond.code y bytes mx rt).before a s = true := by
  simp only [Bool.and_eq_true, beq_iff_eq, Bool.not_eq_true', decide_eq_true_eq] at h5
  obtain ⟨⟨⟨⟨⟨g1, g2⟩, g3⟩, g4⟩, g5⟩, g6⟩ := h5
  simp [Cond.before, Cond.holds, Cond.value, h1, h2, h3, h4, g1, g2, g3, g4, g5, g6]
def isCode : Jvm.Cond → Bool
  | .code _ _ _ _ => true
  | _ => false
theorem all_split {L : List Jvm.Cond} {P : Jvm.Cond → Bool} (h1 : L.all (fun c => isCode c || P c) = true) (h2 : ∀ c ∈ L.filter isCode, P c = true) : L.all P = true := by
  refine List.all_eq_true.mpr fun c hc => ?_
  have h := List.all_eq_true.mp h1 c hc
  rcases Bool.eq_false_or_eq_true (isCode c) with hi | hi
  · exact h2 c (List.mem_filter.mpr ⟨hc, hi⟩)
  · simpa [hi] using h
set_option maxRecDepth 65536 in
theorem w_c0 : (Jvm.Cond.code x code maxLocals ret).before args0 about1 = true := code_word (m := ⟨1, 1⟩) (meth := k1m1) (c := k1c1) (by decide +kernel) rfl rfl rfl (by decide +kernel)
set_option maxRecDepth 65536 in
theorem w_c1 : (Jvm.Cond.code ({ cls := "java/lang/String", name := "length", desc := "()I" } : Jvm.MethodName) jdk_42_method_54_code (1 : Nat) (Option.some Jvm.ClassFile.FieldType.int)).before args0 about1 = true := code_word (m := ⟨7, 2⟩) (meth := k7m2) (c := k7c2) (by decide +kernel) rfl rfl rfl (by decide +kernel)
set_option maxRecDepth 65536 in
theorem w_c2 : (Jvm.Cond.code ({ cls := "java/lang/String", name := "coder", desc := "()B" } : Jvm.MethodName) jdk_42_method_152_code (1 : Nat) (Option.some Jvm.ClassFile.FieldType.byte)).before args0 about1 = true := code_word (m := ⟨7, 6⟩) (meth := k7m6) (c := k7c6) (by decide +kernel) rfl rfl rfl (by decide +kernel)
set_option maxRecDepth 65536 in
theorem w_c3 : (Jvm.Cond.code ({ cls := "com/example/leanweave/leanweave/QosMeasureOfColumnPinLaw", name := "fill", desc := "([CLjava/lang/String;C)V" } : Jvm.MethodName) method_5_code (3 : Nat) (Option.none : Option Jvm.ClassFile.FieldType)).before args0 about1 = true := code_word (m := ⟨1, 4⟩) (meth := k1m4) (c := k1c4) (by decide +kernel) rfl rfl rfl (by decide +kernel)
set_option maxRecDepth 65536 in
theorem w_c4 : (Jvm.Cond.code ({ cls := "com/example/leanweave/leanweave/QosMeasureOfColumnPinLaw", name := "put", desc := "([CILjava/lang/String;C)V" } : Jvm.MethodName) method_4_code (4 : Nat) (Option.none : Option Jvm.ClassFile.FieldType)).before args0 about1 = true := code_word (m := ⟨1, 3⟩) (meth := k1m3) (c := k1c3) (by decide +kernel) rfl rfl rfl (by decide +kernel)
set_option maxRecDepth 65536 in
theorem w_c5 : (Jvm.Cond.code ({ cls := "java/lang/String", name := "charAt", desc := "(I)C" } : Jvm.MethodName) jdk_42_method_56_code (2 : Nat) (Option.some Jvm.ClassFile.FieldType.char)).before args0 about1 = true := code_word (m := ⟨7, 3⟩) (meth := k7m3) (c := k7c3) (by decide +kernel) rfl rfl rfl (by decide +kernel)
set_option maxRecDepth 65536 in
theorem w_c6 : (Jvm.Cond.code ({ cls := "java/lang/String", name := "isLatin1", desc := "()Z" } : Jvm.MethodName) jdk_42_method_154_code (1 : Nat) (Option.some Jvm.ClassFile.FieldType.boolean)).before args0 about1 = true := code_word (m := ⟨7, 7⟩) (meth := k7m7) (c := k7c7) (by decide +kernel) rfl rfl rfl (by decide +kernel)
set_option maxRecDepth 65536 in
theorem w_c7 : (Jvm.Cond.code ({ cls := "java/lang/StringLatin1", name := "charAt", desc := "([BI)C" } : Jvm.MethodName) jdk_43_method_2_code (2 : Nat) (Option.some Jvm.ClassFile.FieldType.char)).before args0 about1 = true := code_word (m := ⟨8, 1⟩) (meth := k8m1) (c := k8c1) (by decide +kernel) rfl rfl rfl (by decide +kernel)
set_option maxRecDepth 65536 in
theorem w_c8 : (Jvm.Cond.code ({ cls := "java/lang/String", name := "checkIndex", desc := "(II)V" } : Jvm.MethodName) jdk_42_method_155_code (2 : Nat) (Option.none : Option Jvm.ClassFile.FieldType)).before args0 about1 = true := code_word (m := ⟨7, 8⟩) (meth := k7m8) (c := k7c8) (by decide +kernel) rfl rfl rfl (by decide +kernel)
set_option maxRecDepth 65536 in
theorem w_c9 : (Jvm.Cond.code ({ cls := "jdk/internal/util/Preconditions", name := "checkIndex", desc := "(IILjava/util/function/BiFunction;)I" } : Jvm.MethodName) jdk_41_method_11_code (3 : Nat) (Option.some Jvm.ClassFile.FieldType.int)).before args0 about1 = true := code_word (m := ⟨9, 1⟩) (meth := k9m1) (c := k9c1) (by decide +kernel) rfl rfl rfl (by decide +kernel)
set_option maxRecDepth 65536 in
theorem w_c10 : (Jvm.Cond.code ({ cls := "java/lang/String", name := "<init>", desc := "([C)V" } : Jvm.MethodName) jdk_42_method_3_code (2 : Nat) (Option.none : Option Jvm.ClassFile.FieldType)).before args0 about1 = true := code_word (m := ⟨7, 1⟩) (meth := k7m1) (c := k7c1) (by decide +kernel) rfl rfl rfl (by decide +kernel)
set_option maxRecDepth 65536 in
theorem w_c11 : (Jvm.Cond.code ({ cls := "java/lang/String", name := "<init>", desc := "([CIILjava/lang/Void;)V" } : Jvm.MethodName) jdk_42_method_149_code (6 : Nat) (Option.none : Option Jvm.ClassFile.FieldType)).before args0 about1 = true := code_word (m := ⟨7, 5⟩) (meth := k7m5) (c := k7c5) (by decide +kernel) rfl rfl rfl (by decide +kernel)
set_option maxRecDepth 65536 in
theorem w_c12 : (Jvm.Cond.code ({ cls := "java/lang/Object", name := "<init>", desc := "()V" } : Jvm.MethodName) object_method_1_code (1 : Nat) (Option.none : Option Jvm.ClassFile.FieldType)).before args0 about1 = true := code_word (m := ⟨0, 0⟩) (meth := k0m0) (c := k0c0) (by decide +kernel) rfl rfl rfl (by decide +kernel)
set_option maxRecDepth 65536 in
theorem w_c13 : (Jvm.Cond.code ({ cls := "java/lang/StringUTF16", name := "compress", desc := "([CII)[B" } : Jvm.MethodName) jdk_52_method_16_code (6 : Nat) (Option.some (Jvm.ClassFile.FieldType.array Jvm.ClassFile.FieldType.byte))).before args0 about1 = true := code_word (m := ⟨10, 2⟩) (meth := k10m2) (c := k10c2) (by decide +kernel) rfl rfl rfl (by decide +kernel)
set_option maxRecDepth 65536 in
theorem w_c14 : (Jvm.Cond.code ({ cls := "java/lang/StringUTF16", name := "compress", desc := "([CI[BII)I" } : Jvm.MethodName) jdk_52_method_21_code (7 : Nat) (Option.some Jvm.ClassFile.FieldType.int)).before args0 about1 = true := code_word (m := ⟨10, 3⟩) (meth := k10m3) (c := k10c3) (by decide +kernel) rfl rfl rfl (by decide +kernel)
set_option maxRecDepth 65536 in
theorem w_c15 : (Jvm.Cond.code ({ cls := "java/lang/StringUTF16", name := "coderFromArrayLen", desc := "([BI)B" } : Jvm.MethodName) jdk_52_method_15_code (2 : Nat) (Option.some Jvm.ClassFile.FieldType.byte)).before args0 about1 = true := code_word (m := ⟨10, 1⟩) (meth := k10m1) (c := k10c1) (by decide +kernel) rfl rfl rfl (by decide +kernel)
set_option maxRecDepth 65536 in
theorem w_c16 : (Jvm.Cond.code ({ cls := "com/example/leanweave/leanweave/QosMeasure", name := "ofColumn", desc := "(Ljava/lang/String;)Ljava/util/Optional;" } : Jvm.MethodName) prog_22_method_5_code (5 : Nat) (Option.some (Jvm.ClassFile.FieldType.object "java/util/Optional"))).before args0 about1 = true := code_word (m := ⟨12, 1⟩) (meth := k12m1) (c := k12c1) (by decide +kernel) rfl rfl rfl (by decide +kernel)
set_option maxRecDepth 65536 in
theorem w_c17 : (Jvm.Cond.code ({ cls := "com/example/leanweave/leanweave/QosMeasure", name := "values", desc := "()[Lcom/example/leanweave/leanweave/QosMeasure;" } : Jvm.MethodName) prog_22_method_1_code (0 : Nat) (Option.some (Jvm.ClassFile.FieldType.array (Jvm.ClassFile.FieldType.object "com/example/leanweave/leanweave/QosMeasure")))).before args0 about1 = true := code_word (m := ⟨12, 0⟩) (meth := k12m0) (c := k12c0) (by decide +kernel) rfl rfl rfl (by decide +kernel)
set_option maxRecDepth 65536 in
theorem w_c18 : (Jvm.Cond.code ({ cls := "java/lang/String", name := "equals", desc := "(Ljava/lang/Object;)Z" } : Jvm.MethodName) jdk_42_method_66_code (3 : Nat) (Option.some Jvm.ClassFile.FieldType.boolean)).before args0 about1 = true := code_word (m := ⟨7, 4⟩) (meth := k7m4) (c := k7c4) (by decide +kernel) rfl rfl rfl (by decide +kernel)
set_option maxRecDepth 65536 in
theorem w_c19 : (Jvm.Cond.code ({ cls := "java/lang/StringLatin1", name := "equals", desc := "([B[B)Z" } : Jvm.MethodName) jdk_43_method_13_code (3 : Nat) (Option.some Jvm.ClassFile.FieldType.boolean)).before args0 about1 = true := code_word (m := ⟨8, 2⟩) (meth := k8m2) (c := k8c2) (by decide +kernel) rfl rfl rfl (by decide +kernel)
set_option maxRecDepth 65536 in
theorem w_c20 : (Jvm.Cond.code ({ cls := "java/util/Optional", name := "empty", desc := "()Ljava/util/Optional;" } : Jvm.MethodName) jdk_32_method_1_code (1 : Nat) (Option.some (Jvm.ClassFile.FieldType.object "java/util/Optional"))).before args0 about1 = true := code_word (m := ⟨14, 0⟩) (meth := k14m0) (c := k14c0) (by decide +kernel) rfl rfl rfl (by decide +kernel)
set_option maxRecDepth 65536 in
theorem w_c21 : (Jvm.Cond.code ({ cls := "java/util/Optional", name := "orElse", desc := "(Ljava/lang/Object;)Ljava/lang/Object;" } : Jvm.MethodName) jdk_32_method_15_code (2 : Nat) (Option.some (Jvm.ClassFile.FieldType.object "java/lang/Object"))).before args0 about1 = true := code_word (m := ⟨14, 3⟩) (meth := k14m3) (c := k14c3) (by decide +kernel) rfl rfl rfl (by decide +kernel)
set_option maxRecDepth 65536 in
theorem w_c22 : (Jvm.Cond.code ({ cls := "com/example/leanweave/leanweave/QosMeasureOfColumnPinLaw", name := "ref", desc := "(Ljava/lang/String;)Lcom/example/leanweave/leanweave/QosMeasure;" } : Jvm.MethodName) method_3_code (1 : Nat) (Option.some (Jvm.ClassFile.FieldType.object "com/example/leanweave/leanweave/QosMeasure"))).before args0 about1 = true := code_word (m := ⟨1, 2⟩) (meth := k1m2) (c := k1c2) (by decide +kernel) rfl rfl rfl (by decide +kernel)
set_option maxRecDepth 65536 in
theorem w_c23 : (Jvm.Cond.code ({ cls := "java/util/Optional", name := "of", desc := "(Ljava/lang/Object;)Ljava/util/Optional;" } : Jvm.MethodName) jdk_32_method_3_code (1 : Nat) (Option.some (Jvm.ClassFile.FieldType.object "java/util/Optional"))).before args0 about1 = true := code_word (m := ⟨14, 2⟩) (meth := k14m2) (c := k14c2) (by decide +kernel) rfl rfl rfl (by decide +kernel)
set_option maxRecDepth 65536 in
theorem w_c24 : (Jvm.Cond.code ({ cls := "java/util/Objects", name := "requireNonNull", desc := "(Ljava/lang/Object;)Ljava/lang/Object;" } : Jvm.MethodName) jdk_31_method_10_code (1 : Nat) (Option.some (Jvm.ClassFile.FieldType.object "java/lang/Object"))).before args0 about1 = true := code_word (m := ⟨15, 1⟩) (meth := k15m1) (c := k15c1) (by decide +kernel) rfl rfl rfl (by decide +kernel)
set_option maxRecDepth 65536 in
theorem w_c25 : (Jvm.Cond.code ({ cls := "java/util/Optional", name := "<init>", desc := "(Ljava/lang/Object;)V" } : Jvm.MethodName) jdk_32_method_2_code (2 : Nat) (Option.none : Option Jvm.ClassFile.FieldType)).before args0 about1 = true := code_word (m := ⟨14, 1⟩) (meth := k14m1) (c := k14c1) (by decide +kernel) rfl rfl rfl (by decide +kernel)
def codes1 : List Jvm.Cond := [Jvm.Cond.code x code maxLocals ret, Jvm.Cond.code ({ cls := "java/lang/String", name := "length", desc := "()I" } : Jvm.MethodName) jdk_42_method_54_code (1 : Nat) (Option.some Jvm.ClassFile.FieldType.int), Jvm.Cond.code ({ cls := "java/lang/String", name := "coder", desc := "()B" } : Jvm.MethodName) jdk_42_method_152_code (1 : Nat) (Option.some Jvm.ClassFile.FieldType.byte), Jvm.Cond.code ({ cls := "com/example/leanweave/leanweave/QosMeasureOfColumnPinLaw", name := "fill", desc := "([CLjava/lang/String;C)V" } : Jvm.MethodName) method_5_code (3 : Nat) (Option.none : Option Jvm.ClassFile.FieldType), Jvm.Cond.code ({ cls := "com/example/leanweave/leanweave/QosMeasureOfColumnPinLaw", name := "put", desc := "([CILjava/lang/String;C)V" } : Jvm.MethodName) method_4_code (4 : Nat) (Option.none : Option Jvm.ClassFile.FieldType), Jvm.Cond.code ({ cls := "java/lang/String", name := "charAt", desc := "(I)C" } : Jvm.MethodName) jdk_42_method_56_code (2 : Nat) (Option.some Jvm.ClassFile.FieldType.char), Jvm.Cond.code ({ cls := "java/lang/String", name := "isLatin1", desc := "()Z" } : Jvm.MethodName) jdk_42_method_154_code (1 : Nat) (Option.some Jvm.ClassFile.FieldType.boolean), Jvm.Cond.code ({ cls := "java/lang/StringLatin1", name := "charAt", desc := "([BI)C" } : Jvm.MethodName) jdk_43_method_2_code (2 : Nat) (Option.some Jvm.ClassFile.FieldType.char), Jvm.Cond.code ({ cls := "java/lang/String", name := "checkIndex", desc := "(II)V" } : Jvm.MethodName) jdk_42_method_155_code (2 : Nat) (Option.none : Option Jvm.ClassFile.FieldType), Jvm.Cond.code ({ cls := "jdk/internal/util/Preconditions", name := "checkIndex", desc := "(IILjava/util/function/BiFunction;)I" } : Jvm.MethodName) jdk_41_method_11_code (3 : Nat) (Option.some Jvm.ClassFile.FieldType.int), Jvm.Cond.code ({ cls := "java/lang/String", name := "<init>", desc := "([C)V" } : Jvm.MethodName) jdk_42_method_3_code (2 : Nat) (Option.none : Option Jvm.ClassFile.FieldType), Jvm.Cond.code ({ cls := "java/lang/String", name := "<init>", desc := "([CIILjava/lang/Void;)V" } : Jvm.MethodName) jdk_42_method_149_code (6 : Nat) (Option.none : Option Jvm.ClassFile.FieldType), Jvm.Cond.code ({ cls := "java/lang/Object", name := "<init>", desc := "()V" } : Jvm.MethodName) object_method_1_code (1 : Nat) (Option.none : Option Jvm.ClassFile.FieldType), Jvm.Cond.code ({ cls := "java/lang/StringUTF16", name := "compress", desc := "([CII)[B" } : Jvm.MethodName) jdk_52_method_16_code (6 : Nat) (Option.some (Jvm.ClassFile.FieldType.array Jvm.ClassFile.FieldType.byte)), Jvm.Cond.code ({ cls := "java/lang/StringUTF16", name := "compress", desc := "([CI[BII)I" } : Jvm.MethodName) jdk_52_method_21_code (7 : Nat) (Option.some Jvm.ClassFile.FieldType.int), Jvm.Cond.code ({ cls := "java/lang/StringUTF16", name := "coderFromArrayLen", desc := "([BI)B" } : Jvm.MethodName) jdk_52_method_15_code (2 : Nat) (Option.some Jvm.ClassFile.FieldType.byte), Jvm.Cond.code ({ cls := "com/example/leanweave/leanweave/QosMeasure", name := "ofColumn", desc := "(Ljava/lang/String;)Ljava/util/Optional;" } : Jvm.MethodName) prog_22_method_5_code (5 : Nat) (Option.some (Jvm.ClassFile.FieldType.object "java/util/Optional")), Jvm.Cond.code ({ cls := "com/example/leanweave/leanweave/QosMeasure", name := "values", desc := "()[Lcom/example/leanweave/leanweave/QosMeasure;" } : Jvm.MethodName) prog_22_method_1_code (0 : Nat) (Option.some (Jvm.ClassFile.FieldType.array (Jvm.ClassFile.FieldType.object "com/example/leanweave/leanweave/QosMeasure"))), Jvm.Cond.code ({ cls := "java/lang/String", name := "equals", desc := "(Ljava/lang/Object;)Z" } : Jvm.MethodName) jdk_42_method_66_code (3 : Nat) (Option.some Jvm.ClassFile.FieldType.boolean), Jvm.Cond.code ({ cls := "java/lang/StringLatin1", name := "equals", desc := "([B[B)Z" } : Jvm.MethodName) jdk_43_method_13_code (3 : Nat) (Option.some Jvm.ClassFile.FieldType.boolean), Jvm.Cond.code ({ cls := "java/util/Optional", name := "empty", desc := "()Ljava/util/Optional;" } : Jvm.MethodName) jdk_32_method_1_code (1 : Nat) (Option.some (Jvm.ClassFile.FieldType.object "java/util/Optional")), Jvm.Cond.code ({ cls := "java/util/Optional", name := "orElse", desc := "(Ljava/lang/Object;)Ljava/lang/Object;" } : Jvm.MethodName) jdk_32_method_15_code (2 : Nat) (Option.some (Jvm.ClassFile.FieldType.object "java/lang/Object")), Jvm.Cond.code ({ cls := "com/example/leanweave/leanweave/QosMeasureOfColumnPinLaw", name := "ref", desc := "(Ljava/lang/String;)Lcom/example/leanweave/leanweave/QosMeasure;" } : Jvm.MethodName) method_3_code (1 : Nat) (Option.some (Jvm.ClassFile.FieldType.object "com/example/leanweave/leanweave/QosMeasure")), Jvm.Cond.code ({ cls := "java/util/Optional", name := "of", desc := "(Ljava/lang/Object;)Ljava/util/Optional;" } : Jvm.MethodName) jdk_32_method_3_code (1 : Nat) (Option.some (Jvm.ClassFile.FieldType.object "java/util/Optional")), Jvm.Cond.code ({ cls := "java/util/Objects", name := "requireNonNull", desc := "(Ljava/lang/Object;)Ljava/lang/Object;" } : Jvm.MethodName) jdk_31_method_10_code (1 : Nat) (Option.some (Jvm.ClassFile.FieldType.object "java/lang/Object")), Jvm.Cond.code ({ cls := "java/util/Optional", name := "<init>", desc := "(Ljava/lang/Object;)V" } : Jvm.MethodName) jdk_32_method_2_code (2 : Nat) (Option.none : Option Jvm.ClassFile.FieldType)]
set_option maxRecDepth 65536 in
theorem codes_eq : words1.filter isCode = codes1 := rfl
theorem w_codes : ∀ c ∈ words1.filter isCode, c.before args0 about1 = true := by
  rw [codes_eq]
  intro c hc
  simp only [codes1, List.mem_cons, List.not_mem_nil, or_false] at hc
  rcases hc with rfl | rfl | rfl | rfl | rfl | rfl | rfl | rfl | rfl | rfl | rfl | rfl | rfl | rfl | rfl | rfl | rfl | rfl | rfl | rfl | rfl | rfl | rfl | rfl | rfl | rfl
  · exact w_c0
  · exact w_c1
  · exact w_c2
  · exact w_c3
  · exact w_c4
  · exact w_c5
  · exact w_c6
  · exact w_c7
  · exact w_c8
  · exact w_c9
  · exact w_c10
  · exact w_c11
  · exact w_c12
  · exact w_c13
  · exact w_c14
  · exact w_c15
  · exact w_c16
  · exact w_c17
  · exact w_c18
  · exact w_c19
  · exact w_c20
  · exact w_c21
  · exact w_c22
  · exact w_c23
  · exact w_c24
  · exact w_c25
set_option maxRecDepth 65536 in
theorem w_t1 : (words1.take 24).all (fun c => isCode c || c.before args0 about1) = true := by decide +kernel
set_option maxRecDepth 65536 in
theorem w_t2 : ((words1.drop 24).take 24).all (fun c => isCode c || c.before args0 about1) = true := by decide +kernel
set_option maxRecDepth 65536 in
theorem w_t3 : (((words1.drop 24).drop 24).take 24).all (fun c => isCode c || c.before args0 about1) = true := by decide +kernel
set_option maxRecDepth 65536 in
theorem w_t4 : ((((words1.drop 24).drop 24).drop 24).take 24).all (fun c => isCode c || c.before args0 about1) = true := by decide +kernel
set_option maxRecDepth 65536 in
theorem w_t5 : (((((words1.drop 24).drop 24).drop 24).drop 24).take 24).all (fun c => isCode c || c.before args0 about1) = true := by decide +kernel
set_option maxRecDepth 65536 in
theorem w_t6 : ((((((words1.drop 24).drop 24).drop 24).drop 24).drop 24).take 24).all (fun c => isCode c || c.before args0 about1) = true := by decide +kernel
set_option maxRecDepth 65536 in
theorem w_t7 : ((((((words1.drop 24).drop 24).drop 24).drop 24).drop 24).drop 24).all (fun c => isCode c || c.before args0 about1) = true := by decide +kernel
theorem w_tables : (allAtoms (Jvm.Cond.code x code maxLocals ret :: tables_1)).before args0 about1 = true := by
  rw [allAtoms_all]
  show words1.all (fun c => c.before args0 about1) = true
  refine all_split ?_ w_codes
  rw [← List.take_append_drop 24 words1, List.all_append, w_t1, ← List.take_append_drop 24 (words1.drop 24), List.all_append, w_t2, ← List.take_append_drop 24 ((words1.drop 24).drop 24), List.all_append, w_t3, ← List.take_append_drop 24 (((words1.drop 24).drop 24).drop 24), List.all_append, w_t4, ← List.take_append_drop 24 ((((words1.drop 24).drop 24).drop 24).drop 24), List.all_append, w_t5, ← List.take_append_drop 24 (((((words1.drop 24).drop 24).drop 24).drop 24).drop 24), List.all_append, w_t6, w_t7]
  rfl
set_option maxRecDepth 65536 in
theorem w_rest : rest_1_c.before args0 about1 = true := by decide +kernel
set_option maxRecDepth 65536 in
theorem w_case : (Jvm.Cond.and given_1 narrow_1).before args0 about1 = true := by decide +kernel
set_option maxRecDepth 65536 in
theorem w_consts : constsHeld consts_1 about1 := Jvm.Lit.constsHeldB_iff.mp (by decide +kernel)
theorem w_applies : (headSpec (Jvm.Cond.code x code maxLocals ret :: tables_1) room_1).applies x e0.platform about1 = true :=
  (Spec.applies_iff w_frames).mpr ⟨w_running, w_runnable, w_alone, w_named, w_hears, w_ripe, w_room, w_tables⟩
theorem atStart : AtStart classFile x code maxLocals ret World_1 tables_1 room_1 Calls_1 rest_1 Pre_1 launch0 p0 e0 about1 theMethod args0 below0 :=
  ⟨lists_1, trivial, launch0.admits_env _ _ _, launch0.least_env, fairChoices_fair.cas, fairChoices_fair.clock, w_frames, w_args, w_heap, w_applies, ⟨w_consts, trivial⟩, w_rest, w_case⟩
end start1
theorem witness_1 : WitnessClaimed_1 := ⟨start1.p0, start1.e0, start1.about1, start1.theMethod, start1.args0, start1.below0, start1.atStart⟩
end Jvm.Pilot.@@N@@
