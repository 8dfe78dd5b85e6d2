import JvmDerived
import JvmDerived.Pilot.@@N@@Statement
import JvmDerived.Pilot.@@N@@Code
set_option linter.unusedVariables false
set_option linter.unusedSimpArgs false
namespace Jvm.RoadKit
open Sem ClassFile Op Lib Jvm.Stand Jvm.Free Jvm.LawKit
section New
variable {p : Program} {l : Launch} {e : Env} {R : Room} {s : State} {m : MethodId} {args : Array Value} {below : List Frame} {meth : Method} {c : Code} {T : State} {locs : List Loc} {cells slots : Nat}
theorem retI (X : Stand p l e R s m args below meth c T locs cells slots) (hx : p.tables.exec = Jvm.exec) {pc : Nat} {Ls : Array Slot} {z : Int32} {rest : List Value} (hret : meth.sig.returnType = some .int) (hd : decode c.code pc = .ok (.ireturn, 1)) {fs : List Frame}
    (hl : ∀ (f : JFrame) (acts : List Action), f.method = m → f.locked = none → f.entered = [] → (doReturn e (T.setTop f) acts (some (.int z))).1 = T.setFrames fs) : Steps p.tables e below (T.setTop (mkF m pc Ls (.int z :: rest))) (T.setFrames fs) :=
  retOut X hx hret rfl (Or.inl ⟨rfl, Or.inl rfl, z, rfl⟩) hd hl
end New
end Jvm.RoadKit
namespace Jvm.Pilot.@@N@@
open Jvm Jvm.ClassFile Sem Op Lib Jvm.Free Jvm.Stand Jvm.LawKit Jvm.RoadKit Bundle Jvm.Pilot.@@N@@.Jvm.D
theorem own_selpriv {s : State} {args : Array Value} {y : MethodName} {n : Nat} (hins : (Jvm.Cond.instantiable y.cls n).before args s = true) (hpriv : (Jvm.Cond.privateMethod y).before args s = true) (hinst : (Jvm.Cond.instanceMethod y).before args s = true) (hy : y.cls ≠ "java/lang/invoke/MethodHandle" ∧ y.cls ≠ "java/lang/invoke/VarHandle") :
    (Jvm.Cond.selects y.cls y y).before args s = true := by
  obtain ⟨c, k, hc, hk, -, hniab, -, -⟩ := Cond.instantiable_spec hins
  have hni : k.isInterface = false := (Bool.or_eq_false_iff.mp hniab).1
  obtain ⟨mk, methM, hnamed, hmethM, -, -⟩ := Cond.instanceMethod_spec hinst
  have hfound : s.methodFound? y.cls y.name y.desc = some mk := State.methodFound?_of_named hnamed hy
  have hcls : mk.cls = c := Option.some.inj ((findClass_of_methodNamed hnamed).symm.trans hc)
  have hsel : selectMethod {} s.vm c mk = .method mk := selectMethod_private hmethM (Cond.privateMethod_at hpriv mk methM hnamed hmethM)
  simp only [Cond.before, Cond.holds, Cond.value, hc, hfound, hnamed, hsel, hcls, hk]
  simp; exact hni
theorem own_nsE {Z : State} {h : Heap} {a : Addr} {C : String} (F : Exa Z h a C) : ∀ c : Cell, h[a]? = some c → c.vm.isStatics = false := by
  obtain ⟨c, k, h1, -, -, h4, -⟩ := F
  intro c' hc; cases h1.symm.trans hc; exact h4
theorem own_nsV {Z : State} {h : Heap} {a : Addr} {k : ClassId} {ty : FieldType} {z : Int32} {vs : List Value} {dv : Value} (F : Arv Z h a k ty z vs dv) : ∀ c : Cell, h[a]? = some c → c.vm.isStatics = false := by
  obtain ⟨c, A, -⟩ := F
  intro c' hc; cases A.1.symm.trans hc; exact A.plain
theorem own_stakeep {Z : State} {h h' : Heap} {C n d : String} {v : Value} {ws : List Addr} (F : Sta Z h C n d v) (K : Keep h h' ws) (q : ∀ x ∈ ws, ∀ c : Cell, h[x]? = some c → c.vm.isStatics = false) : Sta Z h' C n d v := by
  obtain ⟨cf, i, k, f, st, cell, h1, h2, h3, h4, h5, h6, h7⟩ := F
  refine ⟨cf, i, k, f, st, cell, h1, h2, h3, h4, K.2.1 _ _ h5 (fun hm => ?_), h6, h7⟩
  rw [q st hm cell h5] at h6; cases h6
theorem own_ex {args : Array Value} {s : State} {t : Term} {C : String} (h : (Jvm.Cond.exactly t C).value args s none s [] = some true) : ∃ a, t.eval args s none [] s = some (.ref a) ∧ Exa s s.heap a C := by
  obtain ⟨a, e1⟩ := exa_v h; exact ⟨a, e1, Exa.start e1 h⟩
theorem own_evI {args : Array Value} {s : State} {t : Term} {z : Int32} (h : (Jvm.Cond.eq t (.int z)).value args s none s [] = some true) : t.eval args s none [] s = some (.int z) := by
  cases hv : t.eval args s none [] s with
  | none => simp [Cond.value, hv] at h
  | some x => cases x <;> simp [Cond.value, Term.eval, hv] at h ⊢; exact h
theorem own_evJ {args : Array Value} {s : State} {t : Term} {z : Int64} (h : (Jvm.Cond.eq t (.long z)).value args s none s [] = some true) : t.eval args s none [] s = some (.long z) := by
  cases hv : t.eval args s none [] s with
  | none => simp [Cond.value, hv] at h
  | some x => cases x <;> simp [Cond.value, Term.eval, hv] at h ⊢; exact h
theorem own_fldV {args : Array Value} {s : State} {t : Term} {a : Addr} {C n d : String} {v : Value} (ev : t.eval args s none [] s = some (.ref a)) (h : (Term.field t C n d).eval args s none [] s = some v) : Fld s s.heap a C n d v := by
  refine Fld.start ?_
  rw [← fld_at (args := args) (first := s) (o := none) (idx := []) ev]; exact h
theorem own_lt (a b : Int32) : a < b ↔ a.toInt < b.toInt := Int32.lt_iff_toInt_lt
theorem own_le (a b : Int32) : a ≤ b ↔ a.toInt ≤ b.toInt := Int32.le_iff_toInt_le
theorem own_eqi (a b : Int32) : a = b ↔ a.toInt = b.toInt := Int32.toInt_inj.symm
theorem own_ltL (a b : Int64) : a < b ↔ a.toInt < b.toInt := Int64.lt_iff_toInt_lt
theorem own_eqL (a b : Int64) : a = b ↔ a.toInt = b.toInt := Int64.toInt_inj.symm
theorem own_evR {args : Array Value} {s : State} {t u : Term} {a : Addr} (h : (Jvm.Cond.eq t u).value args s none s [] = some true) (hu : u.eval args s none [] s = some (.ref a)) : t.eval args s none [] s = some (.ref a) := by
  cases hv : t.eval args s none [] s with
  | none => simp [Cond.value, hv] at h
  | some x => cases x <;> simp [Cond.value, hu, hv] at h ⊢; exact h
theorem own_len {args : Array Value} {s : State} {t : Term} {a : Addr} {cl : Cell} {z : Int32} (ev : t.eval args s none [] s = some (.ref a)) (hc : s.arrayAt? a = some cl) (h : (Term.length t).eval args s none [] s = some (.int z)) : cl.slots.size < 2 ^ 31 ∧ cl.slots.size.toInt32 = z := by
  by_cases q : cl.slots.size < 2147483648
  · simp [Term.eval, ev, hc, q] at h; exact ⟨q, h⟩
  · simp [Term.eval, ev, hc, q] at h
theorem pn_0 : plainName "com/example/fat_envelope/fatenvelope/Base64Alphabet" = true := by first | (simp [plainName, overriddenIn]; done) | decide +kernel
theorem d1_0 : decode prog_7_method_2_code 0 = .ok (.iload_n 0, 1) := by decide +kernel
theorem d1_1 : decode prog_7_method_2_code 1 = .ok (.ifCond .lt 19, 3) := by decide +kernel
theorem d1_4 : decode prog_7_method_2_code 4 = .ok (.iload_n 0, 1) := by decide +kernel
theorem d1_5 : decode prog_7_method_2_code 5 = .ok (.getstatic 7, 3) := by decide +kernel
theorem d1_8 : decode prog_7_method_2_code 8 = .ok (.arraylength, 1) := by decide +kernel
theorem d1_9 : decode prog_7_method_2_code 9 = .ok (.if_icmp .ge 11, 3) := by decide +kernel
theorem d1_12 : decode prog_7_method_2_code 12 = .ok (.getstatic 7, 3) := by decide +kernel
theorem d1_15 : decode prog_7_method_2_code 15 = .ok (.iload_n 0, 1) := by decide +kernel
theorem d1_16 : decode prog_7_method_2_code 16 = .ok (.baload, 1) := by decide +kernel
theorem d1_17 : decode prog_7_method_2_code 17 = .ok (.goto 4, 3) := by decide +kernel
theorem d1_20 : decode prog_7_method_2_code 20 = .ok (.iconst (-1), 1) := by decide +kernel
theorem d1_21 : decode prog_7_method_2_code 21 = .ok (.ireturn, 1) := by decide +kernel
theorem ef_1 (m : MethodId) (p1_0 : Int32) : entryFrame m #[(.int p1_0)] 1 = mkF m 0 #[.val (.int p1_0)] [] := by first | (simp [entryFrame, mkF, argsToLocals, Value.category]; done) | rfl
def own_val (p1_0 : Int32) (cl_u_VALUES : Cell) : Int32 := (if p1_0 < (0 : Int32) then (-1 : Int32) else (if p1_0 < (128 : Int32) then (atv cl_u_VALUES p1_0) else (-1 : Int32)))
def Q1 (Z : State) (p1_0 : Int32) (u_VALUES : Addr) (cl_u_VALUES : Cell) (h0 : Heap) (n0 : Nat) (v : Option Value) (h : Heap) (L : List Loc) : Prop := v = some (.int (own_val p1_0 cl_u_VALUES)) ∧ Fr n0 L ∧ h = h0
set_option maxRecDepth 65536 in
set_option maxHeartbeats 40000000 in
theorem rm1 (l : Launch) (Z : State) (a0 : Array Value) (hw : ∀ d ∈ tables_1, d.before a0 Z = true) (ws : List Jvm.Cond) (p1_0 : Int32) (u_VALUES : Addr) (cl_u_VALUES : Cell) (h0 : Heap) (n0 : Nat) (Z0 : n0 ≤ h0.size) (Sv : Sta Z h0 "com/example/fat_envelope/fatenvelope/Base64Alphabet" "VALUES" "[B" (.ref u_VALUES)) (Tb : Tab Z h0 u_VALUES cl_u_VALUES .byte (128 : Int32)) :
    MetFree l (⟨"com/example/fat_envelope/fatenvelope/Base64Alphabet", "value", "(I)I"⟩ : MethodName) (head1 (Jvm.Cond.code (⟨"com/example/fat_envelope/fatenvelope/Base64Alphabet", "value", "(I)I"⟩ : MethodName) prog_7_method_2_code 1 (some .int) :: ws) ({ frames := 0, cells := 0, slots := 0, locals := 0 } : Room)) (fun a U => a = #[(.int p1_0)] ∧ Z.Warmed39 U.vm ∧ U.heap = h0) (fun _ _ _ _ _ => True) (fun _ U o U' => ∃ v L, o = .returned v ∧ Q1 Z p1_0 u_VALUES cl_u_VALUES h0 n0 v U'.heap L ∧ FrameEnd U o U' L ({ frames := 0, cells := 0, slots := 0, locals := 0 } : Room).cells ({ frames := 0, cells := 0, slots := 0, locals := 0 } : Room).slots) := by
  refine MetFree.of_bodySF (plainFor_of_name pn_0) hisR ?_
  intro p e s m args below meth c s₁ Bd hml0 hP hK
  obtain ⟨rfl, hZ, hh⟩ := hP
  have hx := Bd.exec
  have hby := Bd.bytes
  have hml : c.maxLocals = 1 := hml0
  have hown : s.vm.findClass "com/example/fat_envelope/fatenvelope/Base64Alphabet" = some m.cls := findClass_of_methodNamed Bd.named
  have hnm := (name_of_methodNamed Bd.named Bd.method).1
  have X0 : Stand p l e ({ frames := 0, cells := 0, slots := 0, locals := 0 } : Room) s m #[(.int p1_0)] below meth c s₁ [] 0 0 := Stand.of_body Bd
  have e0 : s₁.heap = h0 := by rw [← hh, Bd.state]; rfl
  have N0 := Fr.nil n0
  have pre0 : ∀ t, Steps p.tables e below (s₁.setTop (mkF m 0 #[.val (.int p1_0)] [])) t → Steps p.tables e below (s₁.setTop (entryFrame m #[(.int p1_0)] 1)) t := fun t k => castTop (ef_1 m p1_0) k
  have k1 : ∀ t, Steps p.tables e below (s₁.setTop (mkF m 1 #[.val (.int p1_0)] [(.int p1_0)])) t → Steps p.tables e below (s₁.setTop (entryFrame m #[(.int p1_0)] 1)) t := by
    intro t k
    refine pre0 t ?_
    show Steps p.tables e below (s₁.setTop (mkF m 0 #[.val (.int p1_0)] [])) _
    refine XS.iloadN X0.here hx rfl (hb hby d1_0) rfl ?_
    exact k
  by_cases hc1_2 : p1_0 < (0 : Int32)
  · skip
    have k3 : ∀ t, Steps p.tables e below (s₁.setTop (mkF m 21 #[.val (.int p1_0)] [(.int (-1 : Int32))])) t → Steps p.tables e below (s₁.setTop (entryFrame m #[(.int p1_0)] 1)) t := by
      intro t k
      refine k1 t ?_
      show Steps p.tables e below (s₁.setTop (mkF m 1 #[.val (.int p1_0)] [(.int p1_0)])) _
      refine XS.ifYes X0.here hx rfl (pc0 := 1) (pc' := 20) rfl (hb hby d1_1) rfl ((if0 _ _).trans (tlt hc1_2).1) (by decide) (by decide) ?_
      show Steps p.tables e below (s₁.setTop (mkF m 20 #[.val (.int p1_0)] [])) _
      refine XS.iconst X0.here hx rfl (hb hby d1_20) ?_
      exact k
    obtain ⟨fs, hr, hrun, hended, hW, hsame⟩ := X0.leave (v := some (.int (-1 : Int32))) (fun h => by rw [Bd.returns] at h; cases h)
    refine ⟨_, _, k3 _ ?_, hrun, hended, _, _, rfl, ?_, ⟨_, rfl⟩, hW, hsame.mono (by decide) (by decide)⟩
    · exact retI X0 hx Bd.returns (hb hby d1_21) hr
    · show Q1 Z p1_0 u_VALUES cl_u_VALUES h0 n0 _ s₁.heap _
      rw [e0]
      exact ⟨congrArg (fun z => some (Value.int z)) (show ((-1 : Int32) : Int32) = own_val p1_0 cl_u_VALUES from by unfold own_val; rw [if_pos hc1_2]), N0, rfl⟩
  · skip
    obtain ⟨T4, X4, e4, st4⟩ := getS2 X0 hx hZ hown (host := "") (Or.inl (hw _ (List.mem_of_getElem? (i := 5) rfl))) Via.refl e0 Sv (g := (mkF m 5 #[.val (.int p1_0)] [(.int p1_0)])) rfl (hb hby d1_5)
    have k5 : ∀ t, Steps p.tables e below (T4.setTop (mkF m 9 #[.val (.int p1_0)] [(.int (128 : Int32)), (.int p1_0)])) t → Steps p.tables e below (s₁.setTop (entryFrame m #[(.int p1_0)] 1)) t := by
      intro t k
      refine k1 t ?_
      show Steps p.tables e below (s₁.setTop (mkF m 1 #[.val (.int p1_0)] [(.int p1_0)])) _
      refine XS.ifNo X0.here hx rfl (hb hby d1_1) rfl ((if0 _ _).trans (flt hc1_2).1) ?_
      show Steps p.tables e below (s₁.setTop (mkF m 4 #[.val (.int p1_0)] [])) _
      refine XS.iloadN X0.here hx rfl (hb hby d1_4) rfl ?_
      show Steps p.tables e below (s₁.setTop (mkF m 5 #[.val (.int p1_0)] [(.int p1_0)])) _
      refine st4 _ ?_
      show Steps p.tables e below (T4.setTop (mkF m 8 #[.val (.int p1_0)] [(.ref u_VALUES), (.int p1_0)])) _
      refine X4.arraylength hx (by rw [e4]; exact Tb.1.1) (State.isArrayOf_alike hZ.alike Tb.1.2.1) (g := (mkF m 8 #[.val (.int p1_0)] [(.ref u_VALUES), (.int p1_0)])) rfl rfl (hb hby d1_8) _ ?_
      rw [len_of Tb.2.1 Tb.2.2.1]
      exact k
    by_cases hc9_6 : p1_0 < (128 : Int32)
    · skip
      obtain ⟨T7, X7, e7, st7⟩ := getS2 X4 hx hZ hown (host := "") (Or.inl (hw _ (List.mem_of_getElem? (i := 5) rfl))) Via.refl e4 Sv (g := (mkF m 12 #[.val (.int p1_0)] [])) rfl (hb hby d1_12)
      have hin8 : ¬ (p1_0 < 0 ∨ cl_u_VALUES.slots.size ≤ (p1_0).toNatClampNeg) := inb_of Tb.2.1 ⟨hc1_2, hc9_6⟩
      have k9 : ∀ t, Steps p.tables e below (T7.setTop (mkF m 21 #[.val (.int p1_0)] [(.int (atv cl_u_VALUES p1_0))])) t → Steps p.tables e below (s₁.setTop (entryFrame m #[(.int p1_0)] 1)) t := by
        intro t k
        refine k5 t ?_
        show Steps p.tables e below (T4.setTop (mkF m 9 #[.val (.int p1_0)] [(.int (128 : Int32)), (.int p1_0)])) _
        refine XS.icmpNo X4.here hx rfl (hb hby d1_9) rfl (tlt hc9_6).2.1 ?_
        show Steps p.tables e below (T4.setTop (mkF m 12 #[.val (.int p1_0)] [])) _
        refine st7 _ ?_
        show Steps p.tables e below (T7.setTop (mkF m 15 #[.val (.int p1_0)] [(.ref u_VALUES)])) _
        refine XS.iloadN X7.here hx rfl (hb hby d1_15) rfl ?_
        show Steps p.tables e below (T7.setTop (mkF m 16 #[.val (.int p1_0)] [(.int p1_0), (.ref u_VALUES)])) _
        refine X7.baloadBytes hx (j := p1_0) (v := (.int (atv cl_u_VALUES p1_0))) (by rw [e7]; exact Tb.1.1) (State.isArrayOf_alike hZ.alike Tb.1.2.1) Tb.1.2.2 hin8 (Tb.2.2.2 _ hin8) (g := (mkF m 16 #[.val (.int p1_0)] [(.int p1_0), (.ref u_VALUES)])) rfl rfl (hb hby d1_16) _ ?_
        show Steps p.tables e below (T7.setTop (mkF m 17 #[.val (.int p1_0)] [(.int (atv cl_u_VALUES p1_0))])) _
        refine XS.goto X7.here hx rfl (pc0 := 17) (pc' := 21) rfl (hb hby d1_17) (by decide) (by decide) ?_
        exact k
      obtain ⟨fs, hr, hrun, hended, hW, hsame⟩ := X7.leave (v := some (.int (atv cl_u_VALUES p1_0))) (fun h => by rw [Bd.returns] at h; cases h)
      refine ⟨_, _, k9 _ ?_, hrun, hended, _, _, rfl, ?_, ⟨_, rfl⟩, hW, hsame.mono (by decide) (by decide)⟩
      · exact retI X7 hx Bd.returns (hb hby d1_21) hr
      · show Q1 Z p1_0 u_VALUES cl_u_VALUES h0 n0 _ T7.heap _
        rw [e7]
        exact ⟨congrArg (fun z => some (Value.int z)) (show ((atv cl_u_VALUES p1_0) : Int32) = own_val p1_0 cl_u_VALUES from by unfold own_val; rw [if_neg hc1_2, if_pos hc9_6]), N0, rfl⟩
    · skip
      have k10 : ∀ t, Steps p.tables e below (T4.setTop (mkF m 21 #[.val (.int p1_0)] [(.int (-1 : Int32))])) t → Steps p.tables e below (s₁.setTop (entryFrame m #[(.int p1_0)] 1)) t := by
        intro t k
        refine k5 t ?_
        show Steps p.tables e below (T4.setTop (mkF m 9 #[.val (.int p1_0)] [(.int (128 : Int32)), (.int p1_0)])) _
        refine XS.icmpYes X4.here hx rfl (pc0 := 9) (pc' := 20) rfl (hb hby d1_9) rfl (flt hc9_6).2.1 (by decide) (by decide) ?_
        show Steps p.tables e below (T4.setTop (mkF m 20 #[.val (.int p1_0)] [])) _
        refine XS.iconst X4.here hx rfl (hb hby d1_20) ?_
        exact k
      obtain ⟨fs, hr, hrun, hended, hW, hsame⟩ := X4.leave (v := some (.int (-1 : Int32))) (fun h => by rw [Bd.returns] at h; cases h)
      refine ⟨_, _, k10 _ ?_, hrun, hended, _, _, rfl, ?_, ⟨_, rfl⟩, hW, hsame.mono (by decide) (by decide)⟩
      · exact retI X4 hx Bd.returns (hb hby d1_21) hr
      · show Q1 Z p1_0 u_VALUES cl_u_VALUES h0 n0 _ T4.heap _
        rw [e4]
        exact ⟨congrArg (fun z => some (Value.int z)) (show ((-1 : Int32) : Int32) = own_val p1_0 cl_u_VALUES from by unfold own_val; rw [if_neg hc1_2, if_neg hc9_6]), N0, rfl⟩
theorem pn_1 : plainName "com/example/fat_envelope/fatenvelope/Base64AlphabetValuePinLaw" = true := by first | (simp [plainName, overriddenIn]; done) | decide +kernel
theorem d2_0 : decode method_3_code 0 = .ok (.iload_n 0, 1) := by decide +kernel
theorem d2_1 : decode method_3_code 1 = .ok (.bipush 65, 2) := by decide +kernel
theorem d2_3 : decode method_3_code 3 = .ok (.if_icmp .lt 14, 3) := by decide +kernel
theorem d2_6 : decode method_3_code 6 = .ok (.iload_n 0, 1) := by decide +kernel
theorem d2_7 : decode method_3_code 7 = .ok (.bipush 90, 2) := by decide +kernel
theorem d2_9 : decode method_3_code 9 = .ok (.if_icmp .gt 8, 3) := by decide +kernel
theorem d2_12 : decode method_3_code 12 = .ok (.iload_n 0, 1) := by decide +kernel
theorem d2_13 : decode method_3_code 13 = .ok (.bipush 65, 2) := by decide +kernel
theorem d2_15 : decode method_3_code 15 = .ok (.isub, 1) := by decide +kernel
theorem d2_16 : decode method_3_code 16 = .ok (.ireturn, 1) := by decide +kernel
theorem d2_17 : decode method_3_code 17 = .ok (.iload_n 0, 1) := by decide +kernel
theorem d2_18 : decode method_3_code 18 = .ok (.bipush 97, 2) := by decide +kernel
theorem d2_20 : decode method_3_code 20 = .ok (.if_icmp .lt 17, 3) := by decide +kernel
theorem d2_23 : decode method_3_code 23 = .ok (.iload_n 0, 1) := by decide +kernel
theorem d2_24 : decode method_3_code 24 = .ok (.bipush 122, 2) := by decide +kernel
theorem d2_26 : decode method_3_code 26 = .ok (.if_icmp .gt 11, 3) := by decide +kernel
theorem d2_29 : decode method_3_code 29 = .ok (.iload_n 0, 1) := by decide +kernel
theorem d2_30 : decode method_3_code 30 = .ok (.bipush 97, 2) := by decide +kernel
theorem d2_32 : decode method_3_code 32 = .ok (.isub, 1) := by decide +kernel
theorem d2_33 : decode method_3_code 33 = .ok (.bipush 26, 2) := by decide +kernel
theorem d2_35 : decode method_3_code 35 = .ok (.iadd, 1) := by decide +kernel
theorem d2_36 : decode method_3_code 36 = .ok (.ireturn, 1) := by decide +kernel
theorem d2_37 : decode method_3_code 37 = .ok (.iload_n 0, 1) := by decide +kernel
theorem d2_38 : decode method_3_code 38 = .ok (.bipush 48, 2) := by decide +kernel
theorem d2_40 : decode method_3_code 40 = .ok (.if_icmp .lt 17, 3) := by decide +kernel
theorem d2_43 : decode method_3_code 43 = .ok (.iload_n 0, 1) := by decide +kernel
theorem d2_44 : decode method_3_code 44 = .ok (.bipush 57, 2) := by decide +kernel
theorem d2_46 : decode method_3_code 46 = .ok (.if_icmp .gt 11, 3) := by decide +kernel
theorem d2_49 : decode method_3_code 49 = .ok (.iload_n 0, 1) := by decide +kernel
theorem d2_50 : decode method_3_code 50 = .ok (.bipush 48, 2) := by decide +kernel
theorem d2_52 : decode method_3_code 52 = .ok (.isub, 1) := by decide +kernel
theorem d2_53 : decode method_3_code 53 = .ok (.bipush 52, 2) := by decide +kernel
theorem d2_55 : decode method_3_code 55 = .ok (.iadd, 1) := by decide +kernel
theorem d2_56 : decode method_3_code 56 = .ok (.ireturn, 1) := by decide +kernel
theorem d2_57 : decode method_3_code 57 = .ok (.iload_n 0, 1) := by decide +kernel
theorem d2_58 : decode method_3_code 58 = .ok (.bipush 43, 2) := by decide +kernel
theorem d2_60 : decode method_3_code 60 = .ok (.if_icmp .ne 6, 3) := by decide +kernel
theorem d2_63 : decode method_3_code 63 = .ok (.bipush 62, 2) := by decide +kernel
theorem d2_65 : decode method_3_code 65 = .ok (.ireturn, 1) := by decide +kernel
theorem d2_66 : decode method_3_code 66 = .ok (.iload_n 0, 1) := by decide +kernel
theorem d2_67 : decode method_3_code 67 = .ok (.bipush 47, 2) := by decide +kernel
theorem d2_69 : decode method_3_code 69 = .ok (.if_icmp .ne 6, 3) := by decide +kernel
theorem d2_72 : decode method_3_code 72 = .ok (.bipush 63, 2) := by decide +kernel
theorem d2_74 : decode method_3_code 74 = .ok (.ireturn, 1) := by decide +kernel
theorem d2_75 : decode method_3_code 75 = .ok (.iconst (-1), 1) := by decide +kernel
theorem d2_76 : decode method_3_code 76 = .ok (.ireturn, 1) := by decide +kernel
theorem ef_2 (m : MethodId) (p2_0 : Int32) : entryFrame m #[(.int p2_0)] 1 = mkF m 0 #[.val (.int p2_0)] [] := by first | (simp [entryFrame, mkF, argsToLocals, Value.category]; done) | rfl
def own_ref (p2_0 : Int32) : Int32 := (if p2_0 < (65 : Int32) then (if p2_0 < (97 : Int32) then (if p2_0 < (48 : Int32) then (if p2_0 = (43 : Int32) then (62 : Int32) else (if p2_0 = (47 : Int32) then (63 : Int32) else (-1 : Int32))) else (if (57 : Int32) < p2_0 then (if p2_0 = (43 : Int32) then (62 : Int32) else (if p2_0 = (47 : Int32) then (63 : Int32) else (-1 : Int32))) else ((p2_0 - (48 : Int32)) + (52 : Int32)))) else (if (122 : Int32) < p2_0 then (if p2_0 < (48 : Int32) then (if p2_0 = (43 : Int32) then (62 : Int32) else (if p2_0 = (47 : Int32) then (63 : Int32) else (-1 : Int32))) else (if (57 : Int32) < p2_0 then (if p2_0 = (43 : Int32) then (62 : Int32) else (if p2_0 = (47 : Int32) then (63 : Int32) else (-1 : Int32))) else ((p2_0 - (48 : Int32)) + (52 : Int32)))) else ((p2_0 - (97 : Int32)) + (26 : Int32)))) else (if (90 : Int32) < p2_0 then (if p2_0 < (97 : Int32) then (if p2_0 < (48 : Int32) then (if p2_0 = (43 : Int32) then (62 : Int32) else (if p2_0 = (47 : Int32) then (63 : Int32) else (-1 : Int32))) else (if (57 : Int32) < p2_0 then (if p2_0 = (43 : Int32) then (62 : Int32) else (if p2_0 = (47 : Int32) then (63 : Int32) else (-1 : Int32))) else ((p2_0 - (48 : Int32)) + (52 : Int32)))) else (if (122 : Int32) < p2_0 then (if p2_0 < (48 : Int32) then (if p2_0 = (43 : Int32) then (62 : Int32) else (if p2_0 = (47 : Int32) then (63 : Int32) else (-1 : Int32))) else (if (57 : Int32) < p2_0 then (if p2_0 = (43 : Int32) then (62 : Int32) else (if p2_0 = (47 : Int32) then (63 : Int32) else (-1 : Int32))) else ((p2_0 - (48 : Int32)) + (52 : Int32)))) else ((p2_0 - (97 : Int32)) + (26 : Int32)))) else (p2_0 - (65 : Int32))))
def Q2 (Z : State) (p2_0 : Int32) (h0 : Heap) (n0 : Nat) (v : Option Value) (h : Heap) (L : List Loc) : Prop := v = some (.int (own_ref p2_0)) ∧ Fr n0 L ∧ h = h0
set_option maxRecDepth 65536 in
set_option maxHeartbeats 40000000 in
theorem rm2 (l : Launch) (Z : State) (a0 : Array Value) (hw : ∀ d ∈ tables_1, d.before a0 Z = true) (ws : List Jvm.Cond) (p2_0 : Int32) (h0 : Heap) (n0 : Nat) (Z0 : n0 ≤ h0.size) :
    MetFree l (⟨"com/example/fat_envelope/fatenvelope/Base64AlphabetValuePinLaw", "reference", "(I)I"⟩ : MethodName) (head1 (Jvm.Cond.code (⟨"com/example/fat_envelope/fatenvelope/Base64AlphabetValuePinLaw", "reference", "(I)I"⟩ : MethodName) method_3_code 1 (some .int) :: ws) ({ frames := 0, cells := 0, slots := 0, locals := 0 } : Room)) (fun a U => a = #[(.int p2_0)] ∧ Z.Warmed39 U.vm ∧ U.heap = h0) (fun _ _ _ _ _ => True) (fun _ U o U' => ∃ v L, o = .returned v ∧ Q2 Z p2_0 h0 n0 v U'.heap L ∧ FrameEnd U o U' L ({ frames := 0, cells := 0, slots := 0, locals := 0 } : Room).cells ({ frames := 0, cells := 0, slots := 0, locals := 0 } : Room).slots) := by
  refine MetFree.of_bodySF (plainFor_of_name pn_1) hisR ?_
  intro p e s m args below meth c s₁ Bd hml0 hP hK
  obtain ⟨rfl, hZ, hh⟩ := hP
  have hx := Bd.exec
  have hby := Bd.bytes
  have hml : c.maxLocals = 1 := hml0
  have hown : s.vm.findClass "com/example/fat_envelope/fatenvelope/Base64AlphabetValuePinLaw" = some m.cls := findClass_of_methodNamed Bd.named
  have hnm := (name_of_methodNamed Bd.named Bd.method).1
  have X0 : Stand p l e ({ frames := 0, cells := 0, slots := 0, locals := 0 } : Room) s m #[(.int p2_0)] below meth c s₁ [] 0 0 := Stand.of_body Bd
  have e0 : s₁.heap = h0 := by rw [← hh, Bd.state]; rfl
  have N0 := Fr.nil n0
  have pre0 : ∀ t, Steps p.tables e below (s₁.setTop (mkF m 0 #[.val (.int p2_0)] [])) t → Steps p.tables e below (s₁.setTop (entryFrame m #[(.int p2_0)] 1)) t := fun t k => castTop (ef_2 m p2_0) k
  have k1 : ∀ t, Steps p.tables e below (s₁.setTop (mkF m 3 #[.val (.int p2_0)] [(.int (65 : Int32)), (.int p2_0)])) t → Steps p.tables e below (s₁.setTop (entryFrame m #[(.int p2_0)] 1)) t := by
    intro t k
    refine pre0 t ?_
    show Steps p.tables e below (s₁.setTop (mkF m 0 #[.val (.int p2_0)] [])) _
    refine XS.iloadN X0.here hx rfl (hb hby d2_0) rfl ?_
    show Steps p.tables e below (s₁.setTop (mkF m 1 #[.val (.int p2_0)] [(.int p2_0)])) _
    refine XS.bipush X0.here hx rfl (hb hby d2_1) ?_
    exact k
  by_cases hc3_2 : p2_0 < (65 : Int32)
  · skip
    have k3 : ∀ t, Steps p.tables e below (s₁.setTop (mkF m 20 #[.val (.int p2_0)] [(.int (97 : Int32)), (.int p2_0)])) t → Steps p.tables e below (s₁.setTop (entryFrame m #[(.int p2_0)] 1)) t := by
      intro t k
      refine k1 t ?_
      show Steps p.tables e below (s₁.setTop (mkF m 3 #[.val (.int p2_0)] [(.int (65 : Int32)), (.int p2_0)])) _
      refine XS.icmpYes X0.here hx rfl (pc0 := 3) (pc' := 17) rfl (hb hby d2_3) rfl (tlt hc3_2).1 (by decide) (by decide) ?_
      show Steps p.tables e below (s₁.setTop (mkF m 17 #[.val (.int p2_0)] [])) _
      refine XS.iloadN X0.here hx rfl (hb hby d2_17) rfl ?_
      show Steps p.tables e below (s₁.setTop (mkF m 18 #[.val (.int p2_0)] [(.int p2_0)])) _
      refine XS.bipush X0.here hx rfl (hb hby d2_18) ?_
      exact k
    by_cases hc20_4 : p2_0 < (97 : Int32)
    · skip
      have k5 : ∀ t, Steps p.tables e below (s₁.setTop (mkF m 40 #[.val (.int p2_0)] [(.int (48 : Int32)), (.int p2_0)])) t → Steps p.tables e below (s₁.setTop (entryFrame m #[(.int p2_0)] 1)) t := by
        intro t k
        refine k3 t ?_
        show Steps p.tables e below (s₁.setTop (mkF m 20 #[.val (.int p2_0)] [(.int (97 : Int32)), (.int p2_0)])) _
        refine XS.icmpYes X0.here hx rfl (pc0 := 20) (pc' := 37) rfl (hb hby d2_20) rfl (tlt hc20_4).1 (by decide) (by decide) ?_
        show Steps p.tables e below (s₁.setTop (mkF m 37 #[.val (.int p2_0)] [])) _
        refine XS.iloadN X0.here hx rfl (hb hby d2_37) rfl ?_
        show Steps p.tables e below (s₁.setTop (mkF m 38 #[.val (.int p2_0)] [(.int p2_0)])) _
        refine XS.bipush X0.here hx rfl (hb hby d2_38) ?_
        exact k
      by_cases hc40_6 : p2_0 < (48 : Int32)
      · skip
        have k7 : ∀ t, Steps p.tables e below (s₁.setTop (mkF m 60 #[.val (.int p2_0)] [(.int (43 : Int32)), (.int p2_0)])) t → Steps p.tables e below (s₁.setTop (entryFrame m #[(.int p2_0)] 1)) t := by
          intro t k
          refine k5 t ?_
          show Steps p.tables e below (s₁.setTop (mkF m 40 #[.val (.int p2_0)] [(.int (48 : Int32)), (.int p2_0)])) _
          refine XS.icmpYes X0.here hx rfl (pc0 := 40) (pc' := 57) rfl (hb hby d2_40) rfl (tlt hc40_6).1 (by decide) (by decide) ?_
          show Steps p.tables e below (s₁.setTop (mkF m 57 #[.val (.int p2_0)] [])) _
          refine XS.iloadN X0.here hx rfl (hb hby d2_57) rfl ?_
          show Steps p.tables e below (s₁.setTop (mkF m 58 #[.val (.int p2_0)] [(.int p2_0)])) _
          refine XS.bipush X0.here hx rfl (hb hby d2_58) ?_
          exact k
        by_cases hc60_8 : p2_0 = (43 : Int32)
        · skip
          have k9 : ∀ t, Steps p.tables e below (s₁.setTop (mkF m 65 #[.val (.int p2_0)] [(.int (62 : Int32))])) t → Steps p.tables e below (s₁.setTop (entryFrame m #[(.int p2_0)] 1)) t := by
            intro t k
            refine k7 t ?_
            show Steps p.tables e below (s₁.setTop (mkF m 60 #[.val (.int p2_0)] [(.int (43 : Int32)), (.int p2_0)])) _
            refine XS.icmpNo X0.here hx rfl (hb hby d2_60) rfl (teq hc60_8).2 ?_
            show Steps p.tables e below (s₁.setTop (mkF m 63 #[.val (.int p2_0)] [])) _
            refine XS.bipush X0.here hx rfl (hb hby d2_63) ?_
            exact k
          obtain ⟨fs, hr, hrun, hended, hW, hsame⟩ := X0.leave (v := some (.int (62 : Int32))) (fun h => by rw [Bd.returns] at h; cases h)
          refine ⟨_, _, k9 _ ?_, hrun, hended, _, _, rfl, ?_, ⟨_, rfl⟩, hW, hsame.mono (by decide) (by decide)⟩
          · exact retI X0 hx Bd.returns (hb hby d2_65) hr
          · show Q2 Z p2_0 h0 n0 _ s₁.heap _
            rw [e0]
            exact ⟨congrArg (fun z => some (Value.int z)) (show ((62 : Int32) : Int32) = own_ref p2_0 from by unfold own_ref; rw [if_pos hc3_2, if_pos hc20_4, if_pos hc40_6, if_pos hc60_8]), N0, rfl⟩
        · skip
          have k10 : ∀ t, Steps p.tables e below (s₁.setTop (mkF m 69 #[.val (.int p2_0)] [(.int (47 : Int32)), (.int p2_0)])) t → Steps p.tables e below (s₁.setTop (entryFrame m #[(.int p2_0)] 1)) t := by
            intro t k
            refine k7 t ?_
            show Steps p.tables e below (s₁.setTop (mkF m 60 #[.val (.int p2_0)] [(.int (43 : Int32)), (.int p2_0)])) _
            refine XS.icmpYes X0.here hx rfl (pc0 := 60) (pc' := 66) rfl (hb hby d2_60) rfl (feq hc60_8).2 (by decide) (by decide) ?_
            show Steps p.tables e below (s₁.setTop (mkF m 66 #[.val (.int p2_0)] [])) _
            refine XS.iloadN X0.here hx rfl (hb hby d2_66) rfl ?_
            show Steps p.tables e below (s₁.setTop (mkF m 67 #[.val (.int p2_0)] [(.int p2_0)])) _
            refine XS.bipush X0.here hx rfl (hb hby d2_67) ?_
            exact k
          by_cases hc69_11 : p2_0 = (47 : Int32)
          · skip
            have k12 : ∀ t, Steps p.tables e below (s₁.setTop (mkF m 74 #[.val (.int p2_0)] [(.int (63 : Int32))])) t → Steps p.tables e below (s₁.setTop (entryFrame m #[(.int p2_0)] 1)) t := by
              intro t k
              refine k10 t ?_
              show Steps p.tables e below (s₁.setTop (mkF m 69 #[.val (.int p2_0)] [(.int (47 : Int32)), (.int p2_0)])) _
              refine XS.icmpNo X0.here hx rfl (hb hby d2_69) rfl (teq hc69_11).2 ?_
              show Steps p.tables e below (s₁.setTop (mkF m 72 #[.val (.int p2_0)] [])) _
              refine XS.bipush X0.here hx rfl (hb hby d2_72) ?_
              exact k
            obtain ⟨fs, hr, hrun, hended, hW, hsame⟩ := X0.leave (v := some (.int (63 : Int32))) (fun h => by rw [Bd.returns] at h; cases h)
            refine ⟨_, _, k12 _ ?_, hrun, hended, _, _, rfl, ?_, ⟨_, rfl⟩, hW, hsame.mono (by decide) (by decide)⟩
            · exact retI X0 hx Bd.returns (hb hby d2_74) hr
            · show Q2 Z p2_0 h0 n0 _ s₁.heap _
              rw [e0]
              exact ⟨congrArg (fun z => some (Value.int z)) (show ((63 : Int32) : Int32) = own_ref p2_0 from by unfold own_ref; rw [if_pos hc3_2, if_pos hc20_4, if_pos hc40_6, if_neg hc60_8, if_pos hc69_11]), N0, rfl⟩
          · skip
            have k13 : ∀ t, Steps p.tables e below (s₁.setTop (mkF m 76 #[.val (.int p2_0)] [(.int (-1 : Int32))])) t → Steps p.tables e below (s₁.setTop (entryFrame m #[(.int p2_0)] 1)) t := by
              intro t k
              refine k10 t ?_
              show Steps p.tables e below (s₁.setTop (mkF m 69 #[.val (.int p2_0)] [(.int (47 : Int32)), (.int p2_0)])) _
              refine XS.icmpYes X0.here hx rfl (pc0 := 69) (pc' := 75) rfl (hb hby d2_69) rfl (feq hc69_11).2 (by decide) (by decide) ?_
              show Steps p.tables e below (s₁.setTop (mkF m 75 #[.val (.int p2_0)] [])) _
              refine XS.iconst X0.here hx rfl (hb hby d2_75) ?_
              exact k
            obtain ⟨fs, hr, hrun, hended, hW, hsame⟩ := X0.leave (v := some (.int (-1 : Int32))) (fun h => by rw [Bd.returns] at h; cases h)
            refine ⟨_, _, k13 _ ?_, hrun, hended, _, _, rfl, ?_, ⟨_, rfl⟩, hW, hsame.mono (by decide) (by decide)⟩
            · exact retI X0 hx Bd.returns (hb hby d2_76) hr
            · show Q2 Z p2_0 h0 n0 _ s₁.heap _
              rw [e0]
              exact ⟨congrArg (fun z => some (Value.int z)) (show ((-1 : Int32) : Int32) = own_ref p2_0 from by unfold own_ref; rw [if_pos hc3_2, if_pos hc20_4, if_pos hc40_6, if_neg hc60_8, if_neg hc69_11]), N0, rfl⟩
      · skip
        have k14 : ∀ t, Steps p.tables e below (s₁.setTop (mkF m 46 #[.val (.int p2_0)] [(.int (57 : Int32)), (.int p2_0)])) t → Steps p.tables e below (s₁.setTop (entryFrame m #[(.int p2_0)] 1)) t := by
          intro t k
          refine k5 t ?_
          show Steps p.tables e below (s₁.setTop (mkF m 40 #[.val (.int p2_0)] [(.int (48 : Int32)), (.int p2_0)])) _
          refine XS.icmpNo X0.here hx rfl (hb hby d2_40) rfl (flt hc40_6).1 ?_
          show Steps p.tables e below (s₁.setTop (mkF m 43 #[.val (.int p2_0)] [])) _
          refine XS.iloadN X0.here hx rfl (hb hby d2_43) rfl ?_
          show Steps p.tables e below (s₁.setTop (mkF m 44 #[.val (.int p2_0)] [(.int p2_0)])) _
          refine XS.bipush X0.here hx rfl (hb hby d2_44) ?_
          exact k
        by_cases hc46_15 : (57 : Int32) < p2_0
        · skip
          have k16 : ∀ t, Steps p.tables e below (s₁.setTop (mkF m 60 #[.val (.int p2_0)] [(.int (43 : Int32)), (.int p2_0)])) t → Steps p.tables e below (s₁.setTop (entryFrame m #[(.int p2_0)] 1)) t := by
            intro t k
            refine k14 t ?_
            show Steps p.tables e below (s₁.setTop (mkF m 46 #[.val (.int p2_0)] [(.int (57 : Int32)), (.int p2_0)])) _
            refine XS.icmpYes X0.here hx rfl (pc0 := 46) (pc' := 57) rfl (hb hby d2_46) rfl (tlt hc46_15).2.2.1 (by decide) (by decide) ?_
            show Steps p.tables e below (s₁.setTop (mkF m 57 #[.val (.int p2_0)] [])) _
            refine XS.iloadN X0.here hx rfl (hb hby d2_57) rfl ?_
            show Steps p.tables e below (s₁.setTop (mkF m 58 #[.val (.int p2_0)] [(.int p2_0)])) _
            refine XS.bipush X0.here hx rfl (hb hby d2_58) ?_
            exact k
          by_cases hc60_17 : p2_0 = (43 : Int32)
          · skip
            have k18 : ∀ t, Steps p.tables e below (s₁.setTop (mkF m 65 #[.val (.int p2_0)] [(.int (62 : Int32))])) t → Steps p.tables e below (s₁.setTop (entryFrame m #[(.int p2_0)] 1)) t := by
              intro t k
              refine k16 t ?_
              show Steps p.tables e below (s₁.setTop (mkF m 60 #[.val (.int p2_0)] [(.int (43 : Int32)), (.int p2_0)])) _
              refine XS.icmpNo X0.here hx rfl (hb hby d2_60) rfl (teq hc60_17).2 ?_
              show Steps p.tables e below (s₁.setTop (mkF m 63 #[.val (.int p2_0)] [])) _
              refine XS.bipush X0.here hx rfl (hb hby d2_63) ?_
              exact k
            obtain ⟨fs, hr, hrun, hended, hW, hsame⟩ := X0.leave (v := some (.int (62 : Int32))) (fun h => by rw [Bd.returns] at h; cases h)
            refine ⟨_, _, k18 _ ?_, hrun, hended, _, _, rfl, ?_, ⟨_, rfl⟩, hW, hsame.mono (by decide) (by decide)⟩
            · exact retI X0 hx Bd.returns (hb hby d2_65) hr
            · show Q2 Z p2_0 h0 n0 _ s₁.heap _
              rw [e0]
              exact ⟨congrArg (fun z => some (Value.int z)) (show ((62 : Int32) : Int32) = own_ref p2_0 from by unfold own_ref; rw [if_pos hc3_2, if_pos hc20_4, if_neg hc40_6, if_pos hc46_15, if_pos hc60_17]), N0, rfl⟩
          · skip
            have k19 : ∀ t, Steps p.tables e below (s₁.setTop (mkF m 69 #[.val (.int p2_0)] [(.int (47 : Int32)), (.int p2_0)])) t → Steps p.tables e below (s₁.setTop (entryFrame m #[(.int p2_0)] 1)) t := by
              intro t k
              refine k16 t ?_
              show Steps p.tables e below (s₁.setTop (mkF m 60 #[.val (.int p2_0)] [(.int (43 : Int32)), (.int p2_0)])) _
              refine XS.icmpYes X0.here hx rfl (pc0 := 60) (pc' := 66) rfl (hb hby d2_60) rfl (feq hc60_17).2 (by decide) (by decide) ?_
              show Steps p.tables e below (s₁.setTop (mkF m 66 #[.val (.int p2_0)] [])) _
              refine XS.iloadN X0.here hx rfl (hb hby d2_66) rfl ?_
              show Steps p.tables e below (s₁.setTop (mkF m 67 #[.val (.int p2_0)] [(.int p2_0)])) _
              refine XS.bipush X0.here hx rfl (hb hby d2_67) ?_
              exact k
            by_cases hc69_20 : p2_0 = (47 : Int32)
            · skip
              have k21 : ∀ t, Steps p.tables e below (s₁.setTop (mkF m 74 #[.val (.int p2_0)] [(.int (63 : Int32))])) t → Steps p.tables e below (s₁.setTop (entryFrame m #[(.int p2_0)] 1)) t := by
                intro t k
                refine k19 t ?_
                show Steps p.tables e below (s₁.setTop (mkF m 69 #[.val (.int p2_0)] [(.int (47 : Int32)), (.int p2_0)])) _
                refine XS.icmpNo X0.here hx rfl (hb hby d2_69) rfl (teq hc69_20).2 ?_
                show Steps p.tables e below (s₁.setTop (mkF m 72 #[.val (.int p2_0)] [])) _
                refine XS.bipush X0.here hx rfl (hb hby d2_72) ?_
                exact k
              obtain ⟨fs, hr, hrun, hended, hW, hsame⟩ := X0.leave (v := some (.int (63 : Int32))) (fun h => by rw [Bd.returns] at h; cases h)
              refine ⟨_, _, k21 _ ?_, hrun, hended, _, _, rfl, ?_, ⟨_, rfl⟩, hW, hsame.mono (by decide) (by decide)⟩
              · exact retI X0 hx Bd.returns (hb hby d2_74) hr
              · show Q2 Z p2_0 h0 n0 _ s₁.heap _
                rw [e0]
                exact ⟨congrArg (fun z => some (Value.int z)) (show ((63 : Int32) : Int32) = own_ref p2_0 from by unfold own_ref; rw [if_pos hc3_2, if_pos hc20_4, if_neg hc40_6, if_pos hc46_15, if_neg hc60_17, if_pos hc69_20]), N0, rfl⟩
            · skip
              have k22 : ∀ t, Steps p.tables e below (s₁.setTop (mkF m 76 #[.val (.int p2_0)] [(.int (-1 : Int32))])) t → Steps p.tables e below (s₁.setTop (entryFrame m #[(.int p2_0)] 1)) t := by
                intro t k
                refine k19 t ?_
                show Steps p.tables e below (s₁.setTop (mkF m 69 #[.val (.int p2_0)] [(.int (47 : Int32)), (.int p2_0)])) _
                refine XS.icmpYes X0.here hx rfl (pc0 := 69) (pc' := 75) rfl (hb hby d2_69) rfl (feq hc69_20).2 (by decide) (by decide) ?_
                show Steps p.tables e below (s₁.setTop (mkF m 75 #[.val (.int p2_0)] [])) _
                refine XS.iconst X0.here hx rfl (hb hby d2_75) ?_
                exact k
              obtain ⟨fs, hr, hrun, hended, hW, hsame⟩ := X0.leave (v := some (.int (-1 : Int32))) (fun h => by rw [Bd.returns] at h; cases h)
              refine ⟨_, _, k22 _ ?_, hrun, hended, _, _, rfl, ?_, ⟨_, rfl⟩, hW, hsame.mono (by decide) (by decide)⟩
              · exact retI X0 hx Bd.returns (hb hby d2_76) hr
              · show Q2 Z p2_0 h0 n0 _ s₁.heap _
                rw [e0]
                exact ⟨congrArg (fun z => some (Value.int z)) (show ((-1 : Int32) : Int32) = own_ref p2_0 from by unfold own_ref; rw [if_pos hc3_2, if_pos hc20_4, if_neg hc40_6, if_pos hc46_15, if_neg hc60_17, if_neg hc69_20]), N0, rfl⟩
        · skip
          have k23 : ∀ t, Steps p.tables e below (s₁.setTop (mkF m 56 #[.val (.int p2_0)] [(.int ((p2_0 - (48 : Int32)) + (52 : Int32)))])) t → Steps p.tables e below (s₁.setTop (entryFrame m #[(.int p2_0)] 1)) t := by
            intro t k
            refine k14 t ?_
            show Steps p.tables e below (s₁.setTop (mkF m 46 #[.val (.int p2_0)] [(.int (57 : Int32)), (.int p2_0)])) _
            refine XS.icmpNo X0.here hx rfl (hb hby d2_46) rfl (flt hc46_15).2.2.1 ?_
            show Steps p.tables e below (s₁.setTop (mkF m 49 #[.val (.int p2_0)] [])) _
            refine XS.iloadN X0.here hx rfl (hb hby d2_49) rfl ?_
            show Steps p.tables e below (s₁.setTop (mkF m 50 #[.val (.int p2_0)] [(.int p2_0)])) _
            refine XS.bipush X0.here hx rfl (hb hby d2_50) ?_
            show Steps p.tables e below (s₁.setTop (mkF m 52 #[.val (.int p2_0)] [(.int (48 : Int32)), (.int p2_0)])) _
            refine XS.isub X0.here hx rfl (hb hby d2_52) rfl ?_
            show Steps p.tables e below (s₁.setTop (mkF m 53 #[.val (.int p2_0)] [(.int (p2_0 - (48 : Int32)))])) _
            refine XS.bipush X0.here hx rfl (hb hby d2_53) ?_
            show Steps p.tables e below (s₁.setTop (mkF m 55 #[.val (.int p2_0)] [(.int (52 : Int32)), (.int (p2_0 - (48 : Int32)))])) _
            refine XS.iadd X0.here hx rfl (hb hby d2_55) rfl ?_
            exact k
          obtain ⟨fs, hr, hrun, hended, hW, hsame⟩ := X0.leave (v := some (.int ((p2_0 - (48 : Int32)) + (52 : Int32)))) (fun h => by rw [Bd.returns] at h; cases h)
          refine ⟨_, _, k23 _ ?_, hrun, hended, _, _, rfl, ?_, ⟨_, rfl⟩, hW, hsame.mono (by decide) (by decide)⟩
          · exact retI X0 hx Bd.returns (hb hby d2_56) hr
          · show Q2 Z p2_0 h0 n0 _ s₁.heap _
            rw [e0]
            exact ⟨congrArg (fun z => some (Value.int z)) (show (((p2_0 - (48 : Int32)) + (52 : Int32)) : Int32) = own_ref p2_0 from by unfold own_ref; rw [if_pos hc3_2, if_pos hc20_4, if_neg hc40_6, if_neg hc46_15]), N0, rfl⟩
    · skip
      have k24 : ∀ t, Steps p.tables e below (s₁.setTop (mkF m 26 #[.val (.int p2_0)] [(.int (122 : Int32)), (.int p2_0)])) t → Steps p.tables e below (s₁.setTop (entryFrame m #[(.int p2_0)] 1)) t := by
        intro t k
        refine k3 t ?_
        show Steps p.tables e below (s₁.setTop (mkF m 20 #[.val (.int p2_0)] [(.int (97 : Int32)), (.int p2_0)])) _
        refine XS.icmpNo X0.here hx rfl (hb hby d2_20) rfl (flt hc20_4).1 ?_
        show Steps p.tables e below (s₁.setTop (mkF m 23 #[.val (.int p2_0)] [])) _
        refine XS.iloadN X0.here hx rfl (hb hby d2_23) rfl ?_
        show Steps p.tables e below (s₁.setTop (mkF m 24 #[.val (.int p2_0)] [(.int p2_0)])) _
        refine XS.bipush X0.here hx rfl (hb hby d2_24) ?_
        exact k
      by_cases hc26_25 : (122 : Int32) < p2_0
      · skip
        have k26 : ∀ t, Steps p.tables e below (s₁.setTop (mkF m 40 #[.val (.int p2_0)] [(.int (48 : Int32)), (.int p2_0)])) t → Steps p.tables e below (s₁.setTop (entryFrame m #[(.int p2_0)] 1)) t := by
          intro t k
          refine k24 t ?_
          show Steps p.tables e below (s₁.setTop (mkF m 26 #[.val (.int p2_0)] [(.int (122 : Int32)), (.int p2_0)])) _
          refine XS.icmpYes X0.here hx rfl (pc0 := 26) (pc' := 37) rfl (hb hby d2_26) rfl (tlt hc26_25).2.2.1 (by decide) (by decide) ?_
          show Steps p.tables e below (s₁.setTop (mkF m 37 #[.val (.int p2_0)] [])) _
          refine XS.iloadN X0.here hx rfl (hb hby d2_37) rfl ?_
          show Steps p.tables e below (s₁.setTop (mkF m 38 #[.val (.int p2_0)] [(.int p2_0)])) _
          refine XS.bipush X0.here hx rfl (hb hby d2_38) ?_
          exact k
        by_cases hc40_27 : p2_0 < (48 : Int32)
        · skip
          have k28 : ∀ t, Steps p.tables e below (s₁.setTop (mkF m 60 #[.val (.int p2_0)] [(.int (43 : Int32)), (.int p2_0)])) t → Steps p.tables e below (s₁.setTop (entryFrame m #[(.int p2_0)] 1)) t := by
            intro t k
            refine k26 t ?_
            show Steps p.tables e below (s₁.setTop (mkF m 40 #[.val (.int p2_0)] [(.int (48 : Int32)), (.int p2_0)])) _
            refine XS.icmpYes X0.here hx rfl (pc0 := 40) (pc' := 57) rfl (hb hby d2_40) rfl (tlt hc40_27).1 (by decide) (by decide) ?_
            show Steps p.tables e below (s₁.setTop (mkF m 57 #[.val (.int p2_0)] [])) _
            refine XS.iloadN X0.here hx rfl (hb hby d2_57) rfl ?_
            show Steps p.tables e below (s₁.setTop (mkF m 58 #[.val (.int p2_0)] [(.int p2_0)])) _
            refine XS.bipush X0.here hx rfl (hb hby d2_58) ?_
            exact k
          by_cases hc60_29 : p2_0 = (43 : Int32)
          · skip
            have k30 : ∀ t, Steps p.tables e below (s₁.setTop (mkF m 65 #[.val (.int p2_0)] [(.int (62 : Int32))])) t → Steps p.tables e below (s₁.setTop (entryFrame m #[(.int p2_0)] 1)) t := by
              intro t k
              refine k28 t ?_
              show Steps p.tables e below (s₁.setTop (mkF m 60 #[.val (.int p2_0)] [(.int (43 : Int32)), (.int p2_0)])) _
              refine XS.icmpNo X0.here hx rfl (hb hby d2_60) rfl (teq hc60_29).2 ?_
              show Steps p.tables e below (s₁.setTop (mkF m 63 #[.val (.int p2_0)] [])) _
              refine XS.bipush X0.here hx rfl (hb hby d2_63) ?_
              exact k
            obtain ⟨fs, hr, hrun, hended, hW, hsame⟩ := X0.leave (v := some (.int (62 : Int32))) (fun h => by rw [Bd.returns] at h; cases h)
            refine ⟨_, _, k30 _ ?_, hrun, hended, _, _, rfl, ?_, ⟨_, rfl⟩, hW, hsame.mono (by decide) (by decide)⟩
            · exact retI X0 hx Bd.returns (hb hby d2_65) hr
            · show Q2 Z p2_0 h0 n0 _ s₁.heap _
              rw [e0]
              exact ⟨congrArg (fun z => some (Value.int z)) (show ((62 : Int32) : Int32) = own_ref p2_0 from by unfold own_ref; rw [if_pos hc3_2, if_neg hc20_4, if_pos hc26_25, if_pos hc40_27, if_pos hc60_29]), N0, rfl⟩
          · skip
            have k31 : ∀ t, Steps p.tables e below (s₁.setTop (mkF m 69 #[.val (.int p2_0)] [(.int (47 : Int32)), (.int p2_0)])) t → Steps p.tables e below (s₁.setTop (entryFrame m #[(.int p2_0)] 1)) t := by
              intro t k
              refine k28 t ?_
              show Steps p.tables e below (s₁.setTop (mkF m 60 #[.val (.int p2_0)] [(.int (43 : Int32)), (.int p2_0)])) _
              refine XS.icmpYes X0.here hx rfl (pc0 := 60) (pc' := 66) rfl (hb hby d2_60) rfl (feq hc60_29).2 (by decide) (by decide) ?_
              show Steps p.tables e below (s₁.setTop (mkF m 66 #[.val (.int p2_0)] [])) _
              refine XS.iloadN X0.here hx rfl (hb hby d2_66) rfl ?_
              show Steps p.tables e below (s₁.setTop (mkF m 67 #[.val (.int p2_0)] [(.int p2_0)])) _
              refine XS.bipush X0.here hx rfl (hb hby d2_67) ?_
              exact k
            by_cases hc69_32 : p2_0 = (47 : Int32)
            · skip
              have k33 : ∀ t, Steps p.tables e below (s₁.setTop (mkF m 74 #[.val (.int p2_0)] [(.int (63 : Int32))])) t → Steps p.tables e below (s₁.setTop (entryFrame m #[(.int p2_0)] 1)) t := by
                intro t k
                refine k31 t ?_
                show Steps p.tables e below (s₁.setTop (mkF m 69 #[.val (.int p2_0)] [(.int (47 : Int32)), (.int p2_0)])) _
                refine XS.icmpNo X0.here hx rfl (hb hby d2_69) rfl (teq hc69_32).2 ?_
                show Steps p.tables e below (s₁.setTop (mkF m 72 #[.val (.int p2_0)] [])) _
                refine XS.bipush X0.here hx rfl (hb hby d2_72) ?_
                exact k
              obtain ⟨fs, hr, hrun, hended, hW, hsame⟩ := X0.leave (v := some (.int (63 : Int32))) (fun h => by rw [Bd.returns] at h; cases h)
              refine ⟨_, _, k33 _ ?_, hrun, hended, _, _, rfl, ?_, ⟨_, rfl⟩, hW, hsame.mono (by decide) (by decide)⟩
              · exact retI X0 hx Bd.returns (hb hby d2_74) hr
              · show Q2 Z p2_0 h0 n0 _ s₁.heap _
                rw [e0]
                exact ⟨congrArg (fun z => some (Value.int z)) (show ((63 : Int32) : Int32) = own_ref p2_0 from by unfold own_ref; rw [if_pos hc3_2, if_neg hc20_4, if_pos hc26_25, if_pos hc40_27, if_neg hc60_29, if_pos hc69_32]), N0, rfl⟩
            · skip
              have k34 : ∀ t, Steps p.tables e below (s₁.setTop (mkF m 76 #[.val (.int p2_0)] [(.int (-1 : Int32))])) t → Steps p.tables e below (s₁.setTop (entryFrame m #[(.int p2_0)] 1)) t := by
                intro t k
                refine k31 t ?_
                show Steps p.tables e below (s₁.setTop (mkF m 69 #[.val (.int p2_0)] [(.int (47 : Int32)), (.int p2_0)])) _
                refine XS.icmpYes X0.here hx rfl (pc0 := 69) (pc' := 75) rfl (hb hby d2_69) rfl (feq hc69_32).2 (by decide) (by decide) ?_
                show Steps p.tables e below (s₁.setTop (mkF m 75 #[.val (.int p2_0)] [])) _
                refine XS.iconst X0.here hx rfl (hb hby d2_75) ?_
                exact k
              obtain ⟨fs, hr, hrun, hended, hW, hsame⟩ := X0.leave (v := some (.int (-1 : Int32))) (fun h => by rw [Bd.returns] at h; cases h)
              refine ⟨_, _, k34 _ ?_, hrun, hended, _, _, rfl, ?_, ⟨_, rfl⟩, hW, hsame.mono (by decide) (by decide)⟩
              · exact retI X0 hx Bd.returns (hb hby d2_76) hr
              · show Q2 Z p2_0 h0 n0 _ s₁.heap _
                rw [e0]
                exact ⟨congrArg (fun z => some (Value.int z)) (show ((-1 : Int32) : Int32) = own_ref p2_0 from by unfold own_ref; rw [if_pos hc3_2, if_neg hc20_4, if_pos hc26_25, if_pos hc40_27, if_neg hc60_29, if_neg hc69_32]), N0, rfl⟩
        · skip
          have k35 : ∀ t, Steps p.tables e below (s₁.setTop (mkF m 46 #[.val (.int p2_0)] [(.int (57 : Int32)), (.int p2_0)])) t → Steps p.tables e below (s₁.setTop (entryFrame m #[(.int p2_0)] 1)) t := by
            intro t k
            refine k26 t ?_
            show Steps p.tables e below (s₁.setTop (mkF m 40 #[.val (.int p2_0)] [(.int (48 : Int32)), (.int p2_0)])) _
            refine XS.icmpNo X0.here hx rfl (hb hby d2_40) rfl (flt hc40_27).1 ?_
            show Steps p.tables e below (s₁.setTop (mkF m 43 #[.val (.int p2_0)] [])) _
            refine XS.iloadN X0.here hx rfl (hb hby d2_43) rfl ?_
            show Steps p.tables e below (s₁.setTop (mkF m 44 #[.val (.int p2_0)] [(.int p2_0)])) _
            refine XS.bipush X0.here hx rfl (hb hby d2_44) ?_
            exact k
          by_cases hc46_36 : (57 : Int32) < p2_0
          · skip
            have k37 : ∀ t, Steps p.tables e below (s₁.setTop (mkF m 60 #[.val (.int p2_0)] [(.int (43 : Int32)), (.int p2_0)])) t → Steps p.tables e below (s₁.setTop (entryFrame m #[(.int p2_0)] 1)) t := by
              intro t k
              refine k35 t ?_
              show Steps p.tables e below (s₁.setTop (mkF m 46 #[.val (.int p2_0)] [(.int (57 : Int32)), (.int p2_0)])) _
              refine XS.icmpYes X0.here hx rfl (pc0 := 46) (pc' := 57) rfl (hb hby d2_46) rfl (tlt hc46_36).2.2.1 (by decide) (by decide) ?_
              show Steps p.tables e below (s₁.setTop (mkF m 57 #[.val (.int p2_0)] [])) _
              refine XS.iloadN X0.here hx rfl (hb hby d2_57) rfl ?_
              show Steps p.tables e below (s₁.setTop (mkF m 58 #[.val (.int p2_0)] [(.int p2_0)])) _
              refine XS.bipush X0.here hx rfl (hb hby d2_58) ?_
              exact k
            by_cases hc60_38 : p2_0 = (43 : Int32)
            · skip
              have k39 : ∀ t, Steps p.tables e below (s₁.setTop (mkF m 65 #[.val (.int p2_0)] [(.int (62 : Int32))])) t → Steps p.tables e below (s₁.setTop (entryFrame m #[(.int p2_0)] 1)) t := by
                intro t k
                refine k37 t ?_
                show Steps p.tables e below (s₁.setTop (mkF m 60 #[.val (.int p2_0)] [(.int (43 : Int32)), (.int p2_0)])) _
                refine XS.icmpNo X0.here hx rfl (hb hby d2_60) rfl (teq hc60_38).2 ?_
                show Steps p.tables e below (s₁.setTop (mkF m 63 #[.val (.int p2_0)] [])) _
                refine XS.bipush X0.here hx rfl (hb hby d2_63) ?_
                exact k
              obtain ⟨fs, hr, hrun, hended, hW, hsame⟩ := X0.leave (v := some (.int (62 : Int32))) (fun h => by rw [Bd.returns] at h; cases h)
              refine ⟨_, _, k39 _ ?_, hrun, hended, _, _, rfl, ?_, ⟨_, rfl⟩, hW, hsame.mono (by decide) (by decide)⟩
              · exact retI X0 hx Bd.returns (hb hby d2_65) hr
              · show Q2 Z p2_0 h0 n0 _ s₁.heap _
                rw [e0]
                exact ⟨congrArg (fun z => some (Value.int z)) (show ((62 : Int32) : Int32) = own_ref p2_0 from by unfold own_ref; rw [if_pos hc3_2, if_neg hc20_4, if_pos hc26_25, if_neg hc40_27, if_pos hc46_36, if_pos hc60_38]), N0, rfl⟩
            · skip
              have k40 : ∀ t, Steps p.tables e below (s₁.setTop (mkF m 69 #[.val (.int p2_0)] [(.int (47 : Int32)), (.int p2_0)])) t → Steps p.tables e below (s₁.setTop (entryFrame m #[(.int p2_0)] 1)) t := by
                intro t k
                refine k37 t ?_
                show Steps p.tables e below (s₁.setTop (mkF m 60 #[.val (.int p2_0)] [(.int (43 : Int32)), (.int p2_0)])) _
                refine XS.icmpYes X0.here hx rfl (pc0 := 60) (pc' := 66) rfl (hb hby d2_60) rfl (feq hc60_38).2 (by decide) (by decide) ?_
                show Steps p.tables e below (s₁.setTop (mkF m 66 #[.val (.int p2_0)] [])) _
                refine XS.iloadN X0.here hx rfl (hb hby d2_66) rfl ?_
                show Steps p.tables e below (s₁.setTop (mkF m 67 #[.val (.int p2_0)] [(.int p2_0)])) _
                refine XS.bipush X0.here hx rfl (hb hby d2_67) ?_
                exact k
              by_cases hc69_41 : p2_0 = (47 : Int32)
              · skip
                have k42 : ∀ t, Steps p.tables e below (s₁.setTop (mkF m 74 #[.val (.int p2_0)] [(.int (63 : Int32))])) t → Steps p.tables e below (s₁.setTop (entryFrame m #[(.int p2_0)] 1)) t := by
                  intro t k
                  refine k40 t ?_
                  show Steps p.tables e below (s₁.setTop (mkF m 69 #[.val (.int p2_0)] [(.int (47 : Int32)), (.int p2_0)])) _
                  refine XS.icmpNo X0.here hx rfl (hb hby d2_69) rfl (teq hc69_41).2 ?_
                  show Steps p.tables e below (s₁.setTop (mkF m 72 #[.val (.int p2_0)] [])) _
                  refine XS.bipush X0.here hx rfl (hb hby d2_72) ?_
                  exact k
                obtain ⟨fs, hr, hrun, hended, hW, hsame⟩ := X0.leave (v := some (.int (63 : Int32))) (fun h => by rw [Bd.returns] at h; cases h)
                refine ⟨_, _, k42 _ ?_, hrun, hended, _, _, rfl, ?_, ⟨_, rfl⟩, hW, hsame.mono (by decide) (by decide)⟩
                · exact retI X0 hx Bd.returns (hb hby d2_74) hr
                · show Q2 Z p2_0 h0 n0 _ s₁.heap _
                  rw [e0]
                  exact ⟨congrArg (fun z => some (Value.int z)) (show ((63 : Int32) : Int32) = own_ref p2_0 from by unfold own_ref; rw [if_pos hc3_2, if_neg hc20_4, if_pos hc26_25, if_neg hc40_27, if_pos hc46_36, if_neg hc60_38, if_pos hc69_41]), N0, rfl⟩
              · skip
                have k43 : ∀ t, Steps p.tables e below (s₁.setTop (mkF m 76 #[.val (.int p2_0)] [(.int (-1 : Int32))])) t → Steps p.tables e below (s₁.setTop (entryFrame m #[(.int p2_0)] 1)) t := by
                  intro t k
                  refine k40 t ?_
                  show Steps p.tables e below (s₁.setTop (mkF m 69 #[.val (.int p2_0)] [(.int (47 : Int32)), (.int p2_0)])) _
                  refine XS.icmpYes X0.here hx rfl (pc0 := 69) (pc' := 75) rfl (hb hby d2_69) rfl (feq hc69_41).2 (by decide) (by decide) ?_
                  show Steps p.tables e below (s₁.setTop (mkF m 75 #[.val (.int p2_0)] [])) _
                  refine XS.iconst X0.here hx rfl (hb hby d2_75) ?_
                  exact k
                obtain ⟨fs, hr, hrun, hended, hW, hsame⟩ := X0.leave (v := some (.int (-1 : Int32))) (fun h => by rw [Bd.returns] at h; cases h)
                refine ⟨_, _, k43 _ ?_, hrun, hended, _, _, rfl, ?_, ⟨_, rfl⟩, hW, hsame.mono (by decide) (by decide)⟩
                · exact retI X0 hx Bd.returns (hb hby d2_76) hr
                · show Q2 Z p2_0 h0 n0 _ s₁.heap _
                  rw [e0]
                  exact ⟨congrArg (fun z => some (Value.int z)) (show ((-1 : Int32) : Int32) = own_ref p2_0 from by unfold own_ref; rw [if_pos hc3_2, if_neg hc20_4, if_pos hc26_25, if_neg hc40_27, if_pos hc46_36, if_neg hc60_38, if_neg hc69_41]), N0, rfl⟩
          · skip
            have k44 : ∀ t, Steps p.tables e below (s₁.setTop (mkF m 56 #[.val (.int p2_0)] [(.int ((p2_0 - (48 : Int32)) + (52 : Int32)))])) t → Steps p.tables e below (s₁.setTop (entryFrame m #[(.int p2_0)] 1)) t := by
              intro t k
              refine k35 t ?_
              show Steps p.tables e below (s₁.setTop (mkF m 46 #[.val (.int p2_0)] [(.int (57 : Int32)), (.int p2_0)])) _
              refine XS.icmpNo X0.here hx rfl (hb hby d2_46) rfl (flt hc46_36).2.2.1 ?_
              show Steps p.tables e below (s₁.setTop (mkF m 49 #[.val (.int p2_0)] [])) _
              refine XS.iloadN X0.here hx rfl (hb hby d2_49) rfl ?_
              show Steps p.tables e below (s₁.setTop (mkF m 50 #[.val (.int p2_0)] [(.int p2_0)])) _
              refine XS.bipush X0.here hx rfl (hb hby d2_50) ?_
              show Steps p.tables e below (s₁.setTop (mkF m 52 #[.val (.int p2_0)] [(.int (48 : Int32)), (.int p2_0)])) _
              refine XS.isub X0.here hx rfl (hb hby d2_52) rfl ?_
              show Steps p.tables e below (s₁.setTop (mkF m 53 #[.val (.int p2_0)] [(.int (p2_0 - (48 : Int32)))])) _
              refine XS.bipush X0.here hx rfl (hb hby d2_53) ?_
              show Steps p.tables e below (s₁.setTop (mkF m 55 #[.val (.int p2_0)] [(.int (52 : Int32)), (.int (p2_0 - (48 : Int32)))])) _
              refine XS.iadd X0.here hx rfl (hb hby d2_55) rfl ?_
              exact k
            obtain ⟨fs, hr, hrun, hended, hW, hsame⟩ := X0.leave (v := some (.int ((p2_0 - (48 : Int32)) + (52 : Int32)))) (fun h => by rw [Bd.returns] at h; cases h)
            refine ⟨_, _, k44 _ ?_, hrun, hended, _, _, rfl, ?_, ⟨_, rfl⟩, hW, hsame.mono (by decide) (by decide)⟩
            · exact retI X0 hx Bd.returns (hb hby d2_56) hr
            · show Q2 Z p2_0 h0 n0 _ s₁.heap _
              rw [e0]
              exact ⟨congrArg (fun z => some (Value.int z)) (show (((p2_0 - (48 : Int32)) + (52 : Int32)) : Int32) = own_ref p2_0 from by unfold own_ref; rw [if_pos hc3_2, if_neg hc20_4, if_pos hc26_25, if_neg hc40_27, if_neg hc46_36]), N0, rfl⟩
      · skip
        have k45 : ∀ t, Steps p.tables e below (s₁.setTop (mkF m 36 #[.val (.int p2_0)] [(.int ((p2_0 - (97 : Int32)) + (26 : Int32)))])) t → Steps p.tables e below (s₁.setTop (entryFrame m #[(.int p2_0)] 1)) t := by
          intro t k
          refine k24 t ?_
          show Steps p.tables e below (s₁.setTop (mkF m 26 #[.val (.int p2_0)] [(.int (122 : Int32)), (.int p2_0)])) _
          refine XS.icmpNo X0.here hx rfl (hb hby d2_26) rfl (flt hc26_25).2.2.1 ?_
          show Steps p.tables e below (s₁.setTop (mkF m 29 #[.val (.int p2_0)] [])) _
          refine XS.iloadN X0.here hx rfl (hb hby d2_29) rfl ?_
          show Steps p.tables e below (s₁.setTop (mkF m 30 #[.val (.int p2_0)] [(.int p2_0)])) _
          refine XS.bipush X0.here hx rfl (hb hby d2_30) ?_
          show Steps p.tables e below (s₁.setTop (mkF m 32 #[.val (.int p2_0)] [(.int (97 : Int32)), (.int p2_0)])) _
          refine XS.isub X0.here hx rfl (hb hby d2_32) rfl ?_
          show Steps p.tables e below (s₁.setTop (mkF m 33 #[.val (.int p2_0)] [(.int (p2_0 - (97 : Int32)))])) _
          refine XS.bipush X0.here hx rfl (hb hby d2_33) ?_
          show Steps p.tables e below (s₁.setTop (mkF m 35 #[.val (.int p2_0)] [(.int (26 : Int32)), (.int (p2_0 - (97 : Int32)))])) _
          refine XS.iadd X0.here hx rfl (hb hby d2_35) rfl ?_
          exact k
        obtain ⟨fs, hr, hrun, hended, hW, hsame⟩ := X0.leave (v := some (.int ((p2_0 - (97 : Int32)) + (26 : Int32)))) (fun h => by rw [Bd.returns] at h; cases h)
        refine ⟨_, _, k45 _ ?_, hrun, hended, _, _, rfl, ?_, ⟨_, rfl⟩, hW, hsame.mono (by decide) (by decide)⟩
        · exact retI X0 hx Bd.returns (hb hby d2_36) hr
        · show Q2 Z p2_0 h0 n0 _ s₁.heap _
          rw [e0]
          exact ⟨congrArg (fun z => some (Value.int z)) (show (((p2_0 - (97 : Int32)) + (26 : Int32)) : Int32) = own_ref p2_0 from by unfold own_ref; rw [if_pos hc3_2, if_neg hc20_4, if_neg hc26_25]), N0, rfl⟩
  · skip
    have k46 : ∀ t, Steps p.tables e below (s₁.setTop (mkF m 9 #[.val (.int p2_0)] [(.int (90 : Int32)), (.int p2_0)])) t → Steps p.tables e below (s₁.setTop (entryFrame m #[(.int p2_0)] 1)) t := by
      intro t k
      refine k1 t ?_
      show Steps p.tables e below (s₁.setTop (mkF m 3 #[.val (.int p2_0)] [(.int (65 : Int32)), (.int p2_0)])) _
      refine XS.icmpNo X0.here hx rfl (hb hby d2_3) rfl (flt hc3_2).1 ?_
      show Steps p.tables e below (s₁.setTop (mkF m 6 #[.val (.int p2_0)] [])) _
      refine XS.iloadN X0.here hx rfl (hb hby d2_6) rfl ?_
      show Steps p.tables e below (s₁.setTop (mkF m 7 #[.val (.int p2_0)] [(.int p2_0)])) _
      refine XS.bipush X0.here hx rfl (hb hby d2_7) ?_
      exact k
    by_cases hc9_47 : (90 : Int32) < p2_0
    · skip
      have k48 : ∀ t, Steps p.tables e below (s₁.setTop (mkF m 20 #[.val (.int p2_0)] [(.int (97 : Int32)), (.int p2_0)])) t → Steps p.tables e below (s₁.setTop (entryFrame m #[(.int p2_0)] 1)) t := by
        intro t k
        refine k46 t ?_
        show Steps p.tables e below (s₁.setTop (mkF m 9 #[.val (.int p2_0)] [(.int (90 : Int32)), (.int p2_0)])) _
        refine XS.icmpYes X0.here hx rfl (pc0 := 9) (pc' := 17) rfl (hb hby d2_9) rfl (tlt hc9_47).2.2.1 (by decide) (by decide) ?_
        show Steps p.tables e below (s₁.setTop (mkF m 17 #[.val (.int p2_0)] [])) _
        refine XS.iloadN X0.here hx rfl (hb hby d2_17) rfl ?_
        show Steps p.tables e below (s₁.setTop (mkF m 18 #[.val (.int p2_0)] [(.int p2_0)])) _
        refine XS.bipush X0.here hx rfl (hb hby d2_18) ?_
        exact k
      by_cases hc20_49 : p2_0 < (97 : Int32)
      · skip
        have k50 : ∀ t, Steps p.tables e below (s₁.setTop (mkF m 40 #[.val (.int p2_0)] [(.int (48 : Int32)), (.int p2_0)])) t → Steps p.tables e below (s₁.setTop (entryFrame m #[(.int p2_0)] 1)) t := by
          intro t k
          refine k48 t ?_
          show Steps p.tables e below (s₁.setTop (mkF m 20 #[.val (.int p2_0)] [(.int (97 : Int32)), (.int p2_0)])) _
          refine XS.icmpYes X0.here hx rfl (pc0 := 20) (pc' := 37) rfl (hb hby d2_20) rfl (tlt hc20_49).1 (by decide) (by decide) ?_
          show Steps p.tables e below (s₁.setTop (mkF m 37 #[.val (.int p2_0)] [])) _
          refine XS.iloadN X0.here hx rfl (hb hby d2_37) rfl ?_
          show Steps p.tables e below (s₁.setTop (mkF m 38 #[.val (.int p2_0)] [(.int p2_0)])) _
          refine XS.bipush X0.here hx rfl (hb hby d2_38) ?_
          exact k
        by_cases hc40_51 : p2_0 < (48 : Int32)
        · skip
          have k52 : ∀ t, Steps p.tables e below (s₁.setTop (mkF m 60 #[.val (.int p2_0)] [(.int (43 : Int32)), (.int p2_0)])) t → Steps p.tables e below (s₁.setTop (entryFrame m #[(.int p2_0)] 1)) t := by
            intro t k
            refine k50 t ?_
            show Steps p.tables e below (s₁.setTop (mkF m 40 #[.val (.int p2_0)] [(.int (48 : Int32)), (.int p2_0)])) _
            refine XS.icmpYes X0.here hx rfl (pc0 := 40) (pc' := 57) rfl (hb hby d2_40) rfl (tlt hc40_51).1 (by decide) (by decide) ?_
            show Steps p.tables e below (s₁.setTop (mkF m 57 #[.val (.int p2_0)] [])) _
            refine XS.iloadN X0.here hx rfl (hb hby d2_57) rfl ?_
            show Steps p.tables e below (s₁.setTop (mkF m 58 #[.val (.int p2_0)] [(.int p2_0)])) _
            refine XS.bipush X0.here hx rfl (hb hby d2_58) ?_
            exact k
          by_cases hc60_53 : p2_0 = (43 : Int32)
          · skip
            have k54 : ∀ t, Steps p.tables e below (s₁.setTop (mkF m 65 #[.val (.int p2_0)] [(.int (62 : Int32))])) t → Steps p.tables e below (s₁.setTop (entryFrame m #[(.int p2_0)] 1)) t := by
              intro t k
              refine k52 t ?_
              show Steps p.tables e below (s₁.setTop (mkF m 60 #[.val (.int p2_0)] [(.int (43 : Int32)), (.int p2_0)])) _
              refine XS.icmpNo X0.here hx rfl (hb hby d2_60) rfl (teq hc60_53).2 ?_
              show Steps p.tables e below (s₁.setTop (mkF m 63 #[.val (.int p2_0)] [])) _
              refine XS.bipush X0.here hx rfl (hb hby d2_63) ?_
              exact k
            obtain ⟨fs, hr, hrun, hended, hW, hsame⟩ := X0.leave (v := some (.int (62 : Int32))) (fun h => by rw [Bd.returns] at h; cases h)
            refine ⟨_, _, k54 _ ?_, hrun, hended, _, _, rfl, ?_, ⟨_, rfl⟩, hW, hsame.mono (by decide) (by decide)⟩
            · exact retI X0 hx Bd.returns (hb hby d2_65) hr
            · show Q2 Z p2_0 h0 n0 _ s₁.heap _
              rw [e0]
              exact ⟨congrArg (fun z => some (Value.int z)) (show ((62 : Int32) : Int32) = own_ref p2_0 from by unfold own_ref; rw [if_neg hc3_2, if_pos hc9_47, if_pos hc20_49, if_pos hc40_51, if_pos hc60_53]), N0, rfl⟩
          · skip
            have k55 : ∀ t, Steps p.tables e below (s₁.setTop (mkF m 69 #[.val (.int p2_0)] [(.int (47 : Int32)), (.int p2_0)])) t → Steps p.tables e below (s₁.setTop (entryFrame m #[(.int p2_0)] 1)) t := by
              intro t k
              refine k52 t ?_
              show Steps p.tables e below (s₁.setTop (mkF m 60 #[.val (.int p2_0)] [(.int (43 : Int32)), (.int p2_0)])) _
              refine XS.icmpYes X0.here hx rfl (pc0 := 60) (pc' := 66) rfl (hb hby d2_60) rfl (feq hc60_53).2 (by decide) (by decide) ?_
              show Steps p.tables e below (s₁.setTop (mkF m 66 #[.val (.int p2_0)] [])) _
              refine XS.iloadN X0.here hx rfl (hb hby d2_66) rfl ?_
              show Steps p.tables e below (s₁.setTop (mkF m 67 #[.val (.int p2_0)] [(.int p2_0)])) _
              refine XS.bipush X0.here hx rfl (hb hby d2_67) ?_
              exact k
            by_cases hc69_56 : p2_0 = (47 : Int32)
            · skip
              have k57 : ∀ t, Steps p.tables e below (s₁.setTop (mkF m 74 #[.val (.int p2_0)] [(.int (63 : Int32))])) t → Steps p.tables e below (s₁.setTop (entryFrame m #[(.int p2_0)] 1)) t := by
                intro t k
                refine k55 t ?_
                show Steps p.tables e below (s₁.setTop (mkF m 69 #[.val (.int p2_0)] [(.int (47 : Int32)), (.int p2_0)])) _
                refine XS.icmpNo X0.here hx rfl (hb hby d2_69) rfl (teq hc69_56).2 ?_
                show Steps p.tables e below (s₁.setTop (mkF m 72 #[.val (.int p2_0)] [])) _
                refine XS.bipush X0.here hx rfl (hb hby d2_72) ?_
                exact k
              obtain ⟨fs, hr, hrun, hended, hW, hsame⟩ := X0.leave (v := some (.int (63 : Int32))) (fun h => by rw [Bd.returns] at h; cases h)
              refine ⟨_, _, k57 _ ?_, hrun, hended, _, _, rfl, ?_, ⟨_, rfl⟩, hW, hsame.mono (by decide) (by decide)⟩
              · exact retI X0 hx Bd.returns (hb hby d2_74) hr
              · show Q2 Z p2_0 h0 n0 _ s₁.heap _
                rw [e0]
                exact ⟨congrArg (fun z => some (Value.int z)) (show ((63 : Int32) : Int32) = own_ref p2_0 from by unfold own_ref; rw [if_neg hc3_2, if_pos hc9_47, if_pos hc20_49, if_pos hc40_51, if_neg hc60_53, if_pos hc69_56]), N0, rfl⟩
            · skip
              have k58 : ∀ t, Steps p.tables e below (s₁.setTop (mkF m 76 #[.val (.int p2_0)] [(.int (-1 : Int32))])) t → Steps p.tables e below (s₁.setTop (entryFrame m #[(.int p2_0)] 1)) t := by
                intro t k
                refine k55 t ?_
                show Steps p.tables e below (s₁.setTop (mkF m 69 #[.val (.int p2_0)] [(.int (47 : Int32)), (.int p2_0)])) _
                refine XS.icmpYes X0.here hx rfl (pc0 := 69) (pc' := 75) rfl (hb hby d2_69) rfl (feq hc69_56).2 (by decide) (by decide) ?_
                show Steps p.tables e below (s₁.setTop (mkF m 75 #[.val (.int p2_0)] [])) _
                refine XS.iconst X0.here hx rfl (hb hby d2_75) ?_
                exact k
              obtain ⟨fs, hr, hrun, hended, hW, hsame⟩ := X0.leave (v := some (.int (-1 : Int32))) (fun h => by rw [Bd.returns] at h; cases h)
              refine ⟨_, _, k58 _ ?_, hrun, hended, _, _, rfl, ?_, ⟨_, rfl⟩, hW, hsame.mono (by decide) (by decide)⟩
              · exact retI X0 hx Bd.returns (hb hby d2_76) hr
              · show Q2 Z p2_0 h0 n0 _ s₁.heap _
                rw [e0]
                exact ⟨congrArg (fun z => some (Value.int z)) (show ((-1 : Int32) : Int32) = own_ref p2_0 from by unfold own_ref; rw [if_neg hc3_2, if_pos hc9_47, if_pos hc20_49, if_pos hc40_51, if_neg hc60_53, if_neg hc69_56]), N0, rfl⟩
        · skip
          have k59 : ∀ t, Steps p.tables e below (s₁.setTop (mkF m 46 #[.val (.int p2_0)] [(.int (57 : Int32)), (.int p2_0)])) t → Steps p.tables e below (s₁.setTop (entryFrame m #[(.int p2_0)] 1)) t := by
            intro t k
            refine k50 t ?_
            show Steps p.tables e below (s₁.setTop (mkF m 40 #[.val (.int p2_0)] [(.int (48 : Int32)), (.int p2_0)])) _
            refine XS.icmpNo X0.here hx rfl (hb hby d2_40) rfl (flt hc40_51).1 ?_
            show Steps p.tables e below (s₁.setTop (mkF m 43 #[.val (.int p2_0)] [])) _
            refine XS.iloadN X0.here hx rfl (hb hby d2_43) rfl ?_
            show Steps p.tables e below (s₁.setTop (mkF m 44 #[.val (.int p2_0)] [(.int p2_0)])) _
            refine XS.bipush X0.here hx rfl (hb hby d2_44) ?_
            exact k
          by_cases hc46_60 : (57 : Int32) < p2_0
          · skip
            have k61 : ∀ t, Steps p.tables e below (s₁.setTop (mkF m 60 #[.val (.int p2_0)] [(.int (43 : Int32)), (.int p2_0)])) t → Steps p.tables e below (s₁.setTop (entryFrame m #[(.int p2_0)] 1)) t := by
              intro t k
              refine k59 t ?_
              show Steps p.tables e below (s₁.setTop (mkF m 46 #[.val (.int p2_0)] [(.int (57 : Int32)), (.int p2_0)])) _
              refine XS.icmpYes X0.here hx rfl (pc0 := 46) (pc' := 57) rfl (hb hby d2_46) rfl (tlt hc46_60).2.2.1 (by decide) (by decide) ?_
              show Steps p.tables e below (s₁.setTop (mkF m 57 #[.val (.int p2_0)] [])) _
              refine XS.iloadN X0.here hx rfl (hb hby d2_57) rfl ?_
              show Steps p.tables e below (s₁.setTop (mkF m 58 #[.val (.int p2_0)] [(.int p2_0)])) _
              refine XS.bipush X0.here hx rfl (hb hby d2_58) ?_
              exact k
            by_cases hc60_62 : p2_0 = (43 : Int32)
            · skip
              have k63 : ∀ t, Steps p.tables e below (s₁.setTop (mkF m 65 #[.val (.int p2_0)] [(.int (62 : Int32))])) t → Steps p.tables e below (s₁.setTop (entryFrame m #[(.int p2_0)] 1)) t := by
                intro t k
                refine k61 t ?_
                show Steps p.tables e below (s₁.setTop (mkF m 60 #[.val (.int p2_0)] [(.int (43 : Int32)), (.int p2_0)])) _
                refine XS.icmpNo X0.here hx rfl (hb hby d2_60) rfl (teq hc60_62).2 ?_
                show Steps p.tables e below (s₁.setTop (mkF m 63 #[.val (.int p2_0)] [])) _
                refine XS.bipush X0.here hx rfl (hb hby d2_63) ?_
                exact k
              obtain ⟨fs, hr, hrun, hended, hW, hsame⟩ := X0.leave (v := some (.int (62 : Int32))) (fun h => by rw [Bd.returns] at h; cases h)
              refine ⟨_, _, k63 _ ?_, hrun, hended, _, _, rfl, ?_, ⟨_, rfl⟩, hW, hsame.mono (by decide) (by decide)⟩
              · exact retI X0 hx Bd.returns (hb hby d2_65) hr
              · show Q2 Z p2_0 h0 n0 _ s₁.heap _
                rw [e0]
                exact ⟨congrArg (fun z => some (Value.int z)) (show ((62 : Int32) : Int32) = own_ref p2_0 from by unfold own_ref; rw [if_neg hc3_2, if_pos hc9_47, if_pos hc20_49, if_neg hc40_51, if_pos hc46_60, if_pos hc60_62]), N0, rfl⟩
            · skip
              have k64 : ∀ t, Steps p.tables e below (s₁.setTop (mkF m 69 #[.val (.int p2_0)] [(.int (47 : Int32)), (.int p2_0)])) t → Steps p.tables e below (s₁.setTop (entryFrame m #[(.int p2_0)] 1)) t := by
                intro t k
                refine k61 t ?_
                show Steps p.tables e below (s₁.setTop (mkF m 60 #[.val (.int p2_0)] [(.int (43 : Int32)), (.int p2_0)])) _
                refine XS.icmpYes X0.here hx rfl (pc0 := 60) (pc' := 66) rfl (hb hby d2_60) rfl (feq hc60_62).2 (by decide) (by decide) ?_
                show Steps p.tables e below (s₁.setTop (mkF m 66 #[.val (.int p2_0)] [])) _
                refine XS.iloadN X0.here hx rfl (hb hby d2_66) rfl ?_
                show Steps p.tables e below (s₁.setTop (mkF m 67 #[.val (.int p2_0)] [(.int p2_0)])) _
                refine XS.bipush X0.here hx rfl (hb hby d2_67) ?_
                exact k
              by_cases hc69_65 : p2_0 = (47 : Int32)
              · skip
                have k66 : ∀ t, Steps p.tables e below (s₁.setTop (mkF m 74 #[.val (.int p2_0)] [(.int (63 : Int32))])) t → Steps p.tables e below (s₁.setTop (entryFrame m #[(.int p2_0)] 1)) t := by
                  intro t k
                  refine k64 t ?_
                  show Steps p.tables e below (s₁.setTop (mkF m 69 #[.val (.int p2_0)] [(.int (47 : Int32)), (.int p2_0)])) _
                  refine XS.icmpNo X0.here hx rfl (hb hby d2_69) rfl (teq hc69_65).2 ?_
                  show Steps p.tables e below (s₁.setTop (mkF m 72 #[.val (.int p2_0)] [])) _
                  refine XS.bipush X0.here hx rfl (hb hby d2_72) ?_
                  exact k
                obtain ⟨fs, hr, hrun, hended, hW, hsame⟩ := X0.leave (v := some (.int (63 : Int32))) (fun h => by rw [Bd.returns] at h; cases h)
                refine ⟨_, _, k66 _ ?_, hrun, hended, _, _, rfl, ?_, ⟨_, rfl⟩, hW, hsame.mono (by decide) (by decide)⟩
                · exact retI X0 hx Bd.returns (hb hby d2_74) hr
                · show Q2 Z p2_0 h0 n0 _ s₁.heap _
                  rw [e0]
                  exact ⟨congrArg (fun z => some (Value.int z)) (show ((63 : Int32) : Int32) = own_ref p2_0 from by unfold own_ref; rw [if_neg hc3_2, if_pos hc9_47, if_pos hc20_49, if_neg hc40_51, if_pos hc46_60, if_neg hc60_62, if_pos hc69_65]), N0, rfl⟩
              · skip
                have k67 : ∀ t, Steps p.tables e below (s₁.setTop (mkF m 76 #[.val (.int p2_0)] [(.int (-1 : Int32))])) t → Steps p.tables e below (s₁.setTop (entryFrame m #[(.int p2_0)] 1)) t := by
                  intro t k
                  refine k64 t ?_
                  show Steps p.tables e below (s₁.setTop (mkF m 69 #[.val (.int p2_0)] [(.int (47 : Int32)), (.int p2_0)])) _
                  refine XS.icmpYes X0.here hx rfl (pc0 := 69) (pc' := 75) rfl (hb hby d2_69) rfl (feq hc69_65).2 (by decide) (by decide) ?_
                  show Steps p.tables e below (s₁.setTop (mkF m 75 #[.val (.int p2_0)] [])) _
                  refine XS.iconst X0.here hx rfl (hb hby d2_75) ?_
                  exact k
                obtain ⟨fs, hr, hrun, hended, hW, hsame⟩ := X0.leave (v := some (.int (-1 : Int32))) (fun h => by rw [Bd.returns] at h; cases h)
                refine ⟨_, _, k67 _ ?_, hrun, hended, _, _, rfl, ?_, ⟨_, rfl⟩, hW, hsame.mono (by decide) (by decide)⟩
                · exact retI X0 hx Bd.returns (hb hby d2_76) hr
                · show Q2 Z p2_0 h0 n0 _ s₁.heap _
                  rw [e0]
                  exact ⟨congrArg (fun z => some (Value.int z)) (show ((-1 : Int32) : Int32) = own_ref p2_0 from by unfold own_ref; rw [if_neg hc3_2, if_pos hc9_47, if_pos hc20_49, if_neg hc40_51, if_pos hc46_60, if_neg hc60_62, if_neg hc69_65]), N0, rfl⟩
          · skip
            have k68 : ∀ t, Steps p.tables e below (s₁.setTop (mkF m 56 #[.val (.int p2_0)] [(.int ((p2_0 - (48 : Int32)) + (52 : Int32)))])) t → Steps p.tables e below (s₁.setTop (entryFrame m #[(.int p2_0)] 1)) t := by
              intro t k
              refine k59 t ?_
              show Steps p.tables e below (s₁.setTop (mkF m 46 #[.val (.int p2_0)] [(.int (57 : Int32)), (.int p2_0)])) _
              refine XS.icmpNo X0.here hx rfl (hb hby d2_46) rfl (flt hc46_60).2.2.1 ?_
              show Steps p.tables e below (s₁.setTop (mkF m 49 #[.val (.int p2_0)] [])) _
              refine XS.iloadN X0.here hx rfl (hb hby d2_49) rfl ?_
              show Steps p.tables e below (s₁.setTop (mkF m 50 #[.val (.int p2_0)] [(.int p2_0)])) _
              refine XS.bipush X0.here hx rfl (hb hby d2_50) ?_
              show Steps p.tables e below (s₁.setTop (mkF m 52 #[.val (.int p2_0)] [(.int (48 : Int32)), (.int p2_0)])) _
              refine XS.isub X0.here hx rfl (hb hby d2_52) rfl ?_
              show Steps p.tables e below (s₁.setTop (mkF m 53 #[.val (.int p2_0)] [(.int (p2_0 - (48 : Int32)))])) _
              refine XS.bipush X0.here hx rfl (hb hby d2_53) ?_
              show Steps p.tables e below (s₁.setTop (mkF m 55 #[.val (.int p2_0)] [(.int (52 : Int32)), (.int (p2_0 - (48 : Int32)))])) _
              refine XS.iadd X0.here hx rfl (hb hby d2_55) rfl ?_
              exact k
            obtain ⟨fs, hr, hrun, hended, hW, hsame⟩ := X0.leave (v := some (.int ((p2_0 - (48 : Int32)) + (52 : Int32)))) (fun h => by rw [Bd.returns] at h; cases h)
            refine ⟨_, _, k68 _ ?_, hrun, hended, _, _, rfl, ?_, ⟨_, rfl⟩, hW, hsame.mono (by decide) (by decide)⟩
            · exact retI X0 hx Bd.returns (hb hby d2_56) hr
            · show Q2 Z p2_0 h0 n0 _ s₁.heap _
              rw [e0]
              exact ⟨congrArg (fun z => some (Value.int z)) (show (((p2_0 - (48 : Int32)) + (52 : Int32)) : Int32) = own_ref p2_0 from by unfold own_ref; rw [if_neg hc3_2, if_pos hc9_47, if_pos hc20_49, if_neg hc40_51, if_neg hc46_60]), N0, rfl⟩
      · skip
        have k69 : ∀ t, Steps p.tables e below (s₁.setTop (mkF m 26 #[.val (.int p2_0)] [(.int (122 : Int32)), (.int p2_0)])) t → Steps p.tables e below (s₁.setTop (entryFrame m #[(.int p2_0)] 1)) t := by
          intro t k
          refine k48 t ?_
          show Steps p.tables e below (s₁.setTop (mkF m 20 #[.val (.int p2_0)] [(.int (97 : Int32)), (.int p2_0)])) _
          refine XS.icmpNo X0.here hx rfl (hb hby d2_20) rfl (flt hc20_49).1 ?_
          show Steps p.tables e below (s₁.setTop (mkF m 23 #[.val (.int p2_0)] [])) _
          refine XS.iloadN X0.here hx rfl (hb hby d2_23) rfl ?_
          show Steps p.tables e below (s₁.setTop (mkF m 24 #[.val (.int p2_0)] [(.int p2_0)])) _
          refine XS.bipush X0.here hx rfl (hb hby d2_24) ?_
          exact k
        by_cases hc26_70 : (122 : Int32) < p2_0
        · skip
          have k71 : ∀ t, Steps p.tables e below (s₁.setTop (mkF m 40 #[.val (.int p2_0)] [(.int (48 : Int32)), (.int p2_0)])) t → Steps p.tables e below (s₁.setTop (entryFrame m #[(.int p2_0)] 1)) t := by
            intro t k
            refine k69 t ?_
            show Steps p.tables e below (s₁.setTop (mkF m 26 #[.val (.int p2_0)] [(.int (122 : Int32)), (.int p2_0)])) _
            refine XS.icmpYes X0.here hx rfl (pc0 := 26) (pc' := 37) rfl (hb hby d2_26) rfl (tlt hc26_70).2.2.1 (by decide) (by decide) ?_
            show Steps p.tables e below (s₁.setTop (mkF m 37 #[.val (.int p2_0)] [])) _
            refine XS.iloadN X0.here hx rfl (hb hby d2_37) rfl ?_
            show Steps p.tables e below (s₁.setTop (mkF m 38 #[.val (.int p2_0)] [(.int p2_0)])) _
            refine XS.bipush X0.here hx rfl (hb hby d2_38) ?_
            exact k
          by_cases hc40_72 : p2_0 < (48 : Int32)
          · skip
            have k73 : ∀ t, Steps p.tables e below (s₁.setTop (mkF m 60 #[.val (.int p2_0)] [(.int (43 : Int32)), (.int p2_0)])) t → Steps p.tables e below (s₁.setTop (entryFrame m #[(.int p2_0)] 1)) t := by
              intro t k
              refine k71 t ?_
              show Steps p.tables e below (s₁.setTop (mkF m 40 #[.val (.int p2_0)] [(.int (48 : Int32)), (.int p2_0)])) _
              refine XS.icmpYes X0.here hx rfl (pc0 := 40) (pc' := 57) rfl (hb hby d2_40) rfl (tlt hc40_72).1 (by decide) (by decide) ?_
              show Steps p.tables e below (s₁.setTop (mkF m 57 #[.val (.int p2_0)] [])) _
              refine XS.iloadN X0.here hx rfl (hb hby d2_57) rfl ?_
              show Steps p.tables e below (s₁.setTop (mkF m 58 #[.val (.int p2_0)] [(.int p2_0)])) _
              refine XS.bipush X0.here hx rfl (hb hby d2_58) ?_
              exact k
            by_cases hc60_74 : p2_0 = (43 : Int32)
            · skip
              have k75 : ∀ t, Steps p.tables e below (s₁.setTop (mkF m 65 #[.val (.int p2_0)] [(.int (62 : Int32))])) t → Steps p.tables e below (s₁.setTop (entryFrame m #[(.int p2_0)] 1)) t := by
                intro t k
                refine k73 t ?_
                show Steps p.tables e below (s₁.setTop (mkF m 60 #[.val (.int p2_0)] [(.int (43 : Int32)), (.int p2_0)])) _
                refine XS.icmpNo X0.here hx rfl (hb hby d2_60) rfl (teq hc60_74).2 ?_
                show Steps p.tables e below (s₁.setTop (mkF m 63 #[.val (.int p2_0)] [])) _
                refine XS.bipush X0.here hx rfl (hb hby d2_63) ?_
                exact k
              obtain ⟨fs, hr, hrun, hended, hW, hsame⟩ := X0.leave (v := some (.int (62 : Int32))) (fun h => by rw [Bd.returns] at h; cases h)
              refine ⟨_, _, k75 _ ?_, hrun, hended, _, _, rfl, ?_, ⟨_, rfl⟩, hW, hsame.mono (by decide) (by decide)⟩
              · exact retI X0 hx Bd.returns (hb hby d2_65) hr
              · show Q2 Z p2_0 h0 n0 _ s₁.heap _
                rw [e0]
                exact ⟨congrArg (fun z => some (Value.int z)) (show ((62 : Int32) : Int32) = own_ref p2_0 from by unfold own_ref; rw [if_neg hc3_2, if_pos hc9_47, if_neg hc20_49, if_pos hc26_70, if_pos hc40_72, if_pos hc60_74]), N0, rfl⟩
            · skip
              have k76 : ∀ t, Steps p.tables e below (s₁.setTop (mkF m 69 #[.val (.int p2_0)] [(.int (47 : Int32)), (.int p2_0)])) t → Steps p.tables e below (s₁.setTop (entryFrame m #[(.int p2_0)] 1)) t := by
                intro t k
                refine k73 t ?_
                show Steps p.tables e below (s₁.setTop (mkF m 60 #[.val (.int p2_0)] [(.int (43 : Int32)), (.int p2_0)])) _
                refine XS.icmpYes X0.here hx rfl (pc0 := 60) (pc' := 66) rfl (hb hby d2_60) rfl (feq hc60_74).2 (by decide) (by decide) ?_
                show Steps p.tables e below (s₁.setTop (mkF m 66 #[.val (.int p2_0)] [])) _
                refine XS.iloadN X0.here hx rfl (hb hby d2_66) rfl ?_
                show Steps p.tables e below (s₁.setTop (mkF m 67 #[.val (.int p2_0)] [(.int p2_0)])) _
                refine XS.bipush X0.here hx rfl (hb hby d2_67) ?_
                exact k
              by_cases hc69_77 : p2_0 = (47 : Int32)
              · skip
                have k78 : ∀ t, Steps p.tables e below (s₁.setTop (mkF m 74 #[.val (.int p2_0)] [(.int (63 : Int32))])) t → Steps p.tables e below (s₁.setTop (entryFrame m #[(.int p2_0)] 1)) t := by
                  intro t k
                  refine k76 t ?_
                  show Steps p.tables e below (s₁.setTop (mkF m 69 #[.val (.int p2_0)] [(.int (47 : Int32)), (.int p2_0)])) _
                  refine XS.icmpNo X0.here hx rfl (hb hby d2_69) rfl (teq hc69_77).2 ?_
                  show Steps p.tables e below (s₁.setTop (mkF m 72 #[.val (.int p2_0)] [])) _
                  refine XS.bipush X0.here hx rfl (hb hby d2_72) ?_
                  exact k
                obtain ⟨fs, hr, hrun, hended, hW, hsame⟩ := X0.leave (v := some (.int (63 : Int32))) (fun h => by rw [Bd.returns] at h; cases h)
                refine ⟨_, _, k78 _ ?_, hrun, hended, _, _, rfl, ?_, ⟨_, rfl⟩, hW, hsame.mono (by decide) (by decide)⟩
                · exact retI X0 hx Bd.returns (hb hby d2_74) hr
                · show Q2 Z p2_0 h0 n0 _ s₁.heap _
                  rw [e0]
                  exact ⟨congrArg (fun z => some (Value.int z)) (show ((63 : Int32) : Int32) = own_ref p2_0 from by unfold own_ref; rw [if_neg hc3_2, if_pos hc9_47, if_neg hc20_49, if_pos hc26_70, if_pos hc40_72, if_neg hc60_74, if_pos hc69_77]), N0, rfl⟩
              · skip
                have k79 : ∀ t, Steps p.tables e below (s₁.setTop (mkF m 76 #[.val (.int p2_0)] [(.int (-1 : Int32))])) t → Steps p.tables e below (s₁.setTop (entryFrame m #[(.int p2_0)] 1)) t := by
                  intro t k
                  refine k76 t ?_
                  show Steps p.tables e below (s₁.setTop (mkF m 69 #[.val (.int p2_0)] [(.int (47 : Int32)), (.int p2_0)])) _
                  refine XS.icmpYes X0.here hx rfl (pc0 := 69) (pc' := 75) rfl (hb hby d2_69) rfl (feq hc69_77).2 (by decide) (by decide) ?_
                  show Steps p.tables e below (s₁.setTop (mkF m 75 #[.val (.int p2_0)] [])) _
                  refine XS.iconst X0.here hx rfl (hb hby d2_75) ?_
                  exact k
                obtain ⟨fs, hr, hrun, hended, hW, hsame⟩ := X0.leave (v := some (.int (-1 : Int32))) (fun h => by rw [Bd.returns] at h; cases h)
                refine ⟨_, _, k79 _ ?_, hrun, hended, _, _, rfl, ?_, ⟨_, rfl⟩, hW, hsame.mono (by decide) (by decide)⟩
                · exact retI X0 hx Bd.returns (hb hby d2_76) hr
                · show Q2 Z p2_0 h0 n0 _ s₁.heap _
                  rw [e0]
                  exact ⟨congrArg (fun z => some (Value.int z)) (show ((-1 : Int32) : Int32) = own_ref p2_0 from by unfold own_ref; rw [if_neg hc3_2, if_pos hc9_47, if_neg hc20_49, if_pos hc26_70, if_pos hc40_72, if_neg hc60_74, if_neg hc69_77]), N0, rfl⟩
          · skip
            have k80 : ∀ t, Steps p.tables e below (s₁.setTop (mkF m 46 #[.val (.int p2_0)] [(.int (57 : Int32)), (.int p2_0)])) t → Steps p.tables e below (s₁.setTop (entryFrame m #[(.int p2_0)] 1)) t := by
              intro t k
              refine k71 t ?_
              show Steps p.tables e below (s₁.setTop (mkF m 40 #[.val (.int p2_0)] [(.int (48 : Int32)), (.int p2_0)])) _
              refine XS.icmpNo X0.here hx rfl (hb hby d2_40) rfl (flt hc40_72).1 ?_
              show Steps p.tables e below (s₁.setTop (mkF m 43 #[.val (.int p2_0)] [])) _
              refine XS.iloadN X0.here hx rfl (hb hby d2_43) rfl ?_
              show Steps p.tables e below (s₁.setTop (mkF m 44 #[.val (.int p2_0)] [(.int p2_0)])) _
              refine XS.bipush X0.here hx rfl (hb hby d2_44) ?_
              exact k
            by_cases hc46_81 : (57 : Int32) < p2_0
            · skip
              have k82 : ∀ t, Steps p.tables e below (s₁.setTop (mkF m 60 #[.val (.int p2_0)] [(.int (43 : Int32)), (.int p2_0)])) t → Steps p.tables e below (s₁.setTop (entryFrame m #[(.int p2_0)] 1)) t := by
                intro t k
                refine k80 t ?_
                show Steps p.tables e below (s₁.setTop (mkF m 46 #[.val (.int p2_0)] [(.int (57 : Int32)), (.int p2_0)])) _
                refine XS.icmpYes X0.here hx rfl (pc0 := 46) (pc' := 57) rfl (hb hby d2_46) rfl (tlt hc46_81).2.2.1 (by decide) (by decide) ?_
                show Steps p.tables e below (s₁.setTop (mkF m 57 #[.val (.int p2_0)] [])) _
                refine XS.iloadN X0.here hx rfl (hb hby d2_57) rfl ?_
                show Steps p.tables e below (s₁.setTop (mkF m 58 #[.val (.int p2_0)] [(.int p2_0)])) _
                refine XS.bipush X0.here hx rfl (hb hby d2_58) ?_
                exact k
              by_cases hc60_83 : p2_0 = (43 : Int32)
              · skip
                have k84 : ∀ t, Steps p.tables e below (s₁.setTop (mkF m 65 #[.val (.int p2_0)] [(.int (62 : Int32))])) t → Steps p.tables e below (s₁.setTop (entryFrame m #[(.int p2_0)] 1)) t := by
                  intro t k
                  refine k82 t ?_
                  show Steps p.tables e below (s₁.setTop (mkF m 60 #[.val (.int p2_0)] [(.int (43 : Int32)), (.int p2_0)])) _
                  refine XS.icmpNo X0.here hx rfl (hb hby d2_60) rfl (teq hc60_83).2 ?_
                  show Steps p.tables e below (s₁.setTop (mkF m 63 #[.val (.int p2_0)] [])) _
                  refine XS.bipush X0.here hx rfl (hb hby d2_63) ?_
                  exact k
                obtain ⟨fs, hr, hrun, hended, hW, hsame⟩ := X0.leave (v := some (.int (62 : Int32))) (fun h => by rw [Bd.returns] at h; cases h)
                refine ⟨_, _, k84 _ ?_, hrun, hended, _, _, rfl, ?_, ⟨_, rfl⟩, hW, hsame.mono (by decide) (by decide)⟩
                · exact retI X0 hx Bd.returns (hb hby d2_65) hr
                · show Q2 Z p2_0 h0 n0 _ s₁.heap _
                  rw [e0]
                  exact ⟨congrArg (fun z => some (Value.int z)) (show ((62 : Int32) : Int32) = own_ref p2_0 from by unfold own_ref; rw [if_neg hc3_2, if_pos hc9_47, if_neg hc20_49, if_pos hc26_70, if_neg hc40_72, if_pos hc46_81, if_pos hc60_83]), N0, rfl⟩
              · skip
                have k85 : ∀ t, Steps p.tables e below (s₁.setTop (mkF m 69 #[.val (.int p2_0)] [(.int (47 : Int32)), (.int p2_0)])) t → Steps p.tables e below (s₁.setTop (entryFrame m #[(.int p2_0)] 1)) t := by
                  intro t k
                  refine k82 t ?_
                  show Steps p.tables e below (s₁.setTop (mkF m 60 #[.val (.int p2_0)] [(.int (43 : Int32)), (.int p2_0)])) _
                  refine XS.icmpYes X0.here hx rfl (pc0 := 60) (pc' := 66) rfl (hb hby d2_60) rfl (feq hc60_83).2 (by decide) (by decide) ?_
                  show Steps p.tables e below (s₁.setTop (mkF m 66 #[.val (.int p2_0)] [])) _
                  refine XS.iloadN X0.here hx rfl (hb hby d2_66) rfl ?_
                  show Steps p.tables e below (s₁.setTop (mkF m 67 #[.val (.int p2_0)] [(.int p2_0)])) _
                  refine XS.bipush X0.here hx rfl (hb hby d2_67) ?_
                  exact k
                by_cases hc69_86 : p2_0 = (47 : Int32)
                · skip
                  have k87 : ∀ t, Steps p.tables e below (s₁.setTop (mkF m 74 #[.val (.int p2_0)] [(.int (63 : Int32))])) t → Steps p.tables e below (s₁.setTop (entryFrame m #[(.int p2_0)] 1)) t := by
                    intro t k
                    refine k85 t ?_
                    show Steps p.tables e below (s₁.setTop (mkF m 69 #[.val (.int p2_0)] [(.int (47 : Int32)), (.int p2_0)])) _
                    refine XS.icmpNo X0.here hx rfl (hb hby d2_69) rfl (teq hc69_86).2 ?_
                    show Steps p.tables e below (s₁.setTop (mkF m 72 #[.val (.int p2_0)] [])) _
                    refine XS.bipush X0.here hx rfl (hb hby d2_72) ?_
                    exact k
                  obtain ⟨fs, hr, hrun, hended, hW, hsame⟩ := X0.leave (v := some (.int (63 : Int32))) (fun h => by rw [Bd.returns] at h; cases h)
                  refine ⟨_, _, k87 _ ?_, hrun, hended, _, _, rfl, ?_, ⟨_, rfl⟩, hW, hsame.mono (by decide) (by decide)⟩
                  · exact retI X0 hx Bd.returns (hb hby d2_74) hr
                  · show Q2 Z p2_0 h0 n0 _ s₁.heap _
                    rw [e0]
                    exact ⟨congrArg (fun z => some (Value.int z)) (show ((63 : Int32) : Int32) = own_ref p2_0 from by unfold own_ref; rw [if_neg hc3_2, if_pos hc9_47, if_neg hc20_49, if_pos hc26_70, if_neg hc40_72, if_pos hc46_81, if_neg hc60_83, if_pos hc69_86]), N0, rfl⟩
                · skip
                  have k88 : ∀ t, Steps p.tables e below (s₁.setTop (mkF m 76 #[.val (.int p2_0)] [(.int (-1 : Int32))])) t → Steps p.tables e below (s₁.setTop (entryFrame m #[(.int p2_0)] 1)) t := by
                    intro t k
                    refine k85 t ?_
                    show Steps p.tables e below (s₁.setTop (mkF m 69 #[.val (.int p2_0)] [(.int (47 : Int32)), (.int p2_0)])) _
                    refine XS.icmpYes X0.here hx rfl (pc0 := 69) (pc' := 75) rfl (hb hby d2_69) rfl (feq hc69_86).2 (by decide) (by decide) ?_
                    show Steps p.tables e below (s₁.setTop (mkF m 75 #[.val (.int p2_0)] [])) _
                    refine XS.iconst X0.here hx rfl (hb hby d2_75) ?_
                    exact k
                  obtain ⟨fs, hr, hrun, hended, hW, hsame⟩ := X0.leave (v := some (.int (-1 : Int32))) (fun h => by rw [Bd.returns] at h; cases h)
                  refine ⟨_, _, k88 _ ?_, hrun, hended, _, _, rfl, ?_, ⟨_, rfl⟩, hW, hsame.mono (by decide) (by decide)⟩
                  · exact retI X0 hx Bd.returns (hb hby d2_76) hr
                  · show Q2 Z p2_0 h0 n0 _ s₁.heap _
                    rw [e0]
                    exact ⟨congrArg (fun z => some (Value.int z)) (show ((-1 : Int32) : Int32) = own_ref p2_0 from by unfold own_ref; rw [if_neg hc3_2, if_pos hc9_47, if_neg hc20_49, if_pos hc26_70, if_neg hc40_72, if_pos hc46_81, if_neg hc60_83, if_neg hc69_86]), N0, rfl⟩
            · skip
              have k89 : ∀ t, Steps p.tables e below (s₁.setTop (mkF m 56 #[.val (.int p2_0)] [(.int ((p2_0 - (48 : Int32)) + (52 : Int32)))])) t → Steps p.tables e below (s₁.setTop (entryFrame m #[(.int p2_0)] 1)) t := by
                intro t k
                refine k80 t ?_
                show Steps p.tables e below (s₁.setTop (mkF m 46 #[.val (.int p2_0)] [(.int (57 : Int32)), (.int p2_0)])) _
                refine XS.icmpNo X0.here hx rfl (hb hby d2_46) rfl (flt hc46_81).2.2.1 ?_
                show Steps p.tables e below (s₁.setTop (mkF m 49 #[.val (.int p2_0)] [])) _
                refine XS.iloadN X0.here hx rfl (hb hby d2_49) rfl ?_
                show Steps p.tables e below (s₁.setTop (mkF m 50 #[.val (.int p2_0)] [(.int p2_0)])) _
                refine XS.bipush X0.here hx rfl (hb hby d2_50) ?_
                show Steps p.tables e below (s₁.setTop (mkF m 52 #[.val (.int p2_0)] [(.int (48 : Int32)), (.int p2_0)])) _
                refine XS.isub X0.here hx rfl (hb hby d2_52) rfl ?_
                show Steps p.tables e below (s₁.setTop (mkF m 53 #[.val (.int p2_0)] [(.int (p2_0 - (48 : Int32)))])) _
                refine XS.bipush X0.here hx rfl (hb hby d2_53) ?_
                show Steps p.tables e below (s₁.setTop (mkF m 55 #[.val (.int p2_0)] [(.int (52 : Int32)), (.int (p2_0 - (48 : Int32)))])) _
                refine XS.iadd X0.here hx rfl (hb hby d2_55) rfl ?_
                exact k
              obtain ⟨fs, hr, hrun, hended, hW, hsame⟩ := X0.leave (v := some (.int ((p2_0 - (48 : Int32)) + (52 : Int32)))) (fun h => by rw [Bd.returns] at h; cases h)
              refine ⟨_, _, k89 _ ?_, hrun, hended, _, _, rfl, ?_, ⟨_, rfl⟩, hW, hsame.mono (by decide) (by decide)⟩
              · exact retI X0 hx Bd.returns (hb hby d2_56) hr
              · show Q2 Z p2_0 h0 n0 _ s₁.heap _
                rw [e0]
                exact ⟨congrArg (fun z => some (Value.int z)) (show (((p2_0 - (48 : Int32)) + (52 : Int32)) : Int32) = own_ref p2_0 from by unfold own_ref; rw [if_neg hc3_2, if_pos hc9_47, if_neg hc20_49, if_pos hc26_70, if_neg hc40_72, if_neg hc46_81]), N0, rfl⟩
        · skip
          have k90 : ∀ t, Steps p.tables e below (s₁.setTop (mkF m 36 #[.val (.int p2_0)] [(.int ((p2_0 - (97 : Int32)) + (26 : Int32)))])) t → Steps p.tables e below (s₁.setTop (entryFrame m #[(.int p2_0)] 1)) t := by
            intro t k
            refine k69 t ?_
            show Steps p.tables e below (s₁.setTop (mkF m 26 #[.val (.int p2_0)] [(.int (122 : Int32)), (.int p2_0)])) _
            refine XS.icmpNo X0.here hx rfl (hb hby d2_26) rfl (flt hc26_70).2.2.1 ?_
            show Steps p.tables e below (s₁.setTop (mkF m 29 #[.val (.int p2_0)] [])) _
            refine XS.iloadN X0.here hx rfl (hb hby d2_29) rfl ?_
            show Steps p.tables e below (s₁.setTop (mkF m 30 #[.val (.int p2_0)] [(.int p2_0)])) _
            refine XS.bipush X0.here hx rfl (hb hby d2_30) ?_
            show Steps p.tables e below (s₁.setTop (mkF m 32 #[.val (.int p2_0)] [(.int (97 : Int32)), (.int p2_0)])) _
            refine XS.isub X0.here hx rfl (hb hby d2_32) rfl ?_
            show Steps p.tables e below (s₁.setTop (mkF m 33 #[.val (.int p2_0)] [(.int (p2_0 - (97 : Int32)))])) _
            refine XS.bipush X0.here hx rfl (hb hby d2_33) ?_
            show Steps p.tables e below (s₁.setTop (mkF m 35 #[.val (.int p2_0)] [(.int (26 : Int32)), (.int (p2_0 - (97 : Int32)))])) _
            refine XS.iadd X0.here hx rfl (hb hby d2_35) rfl ?_
            exact k
          obtain ⟨fs, hr, hrun, hended, hW, hsame⟩ := X0.leave (v := some (.int ((p2_0 - (97 : Int32)) + (26 : Int32)))) (fun h => by rw [Bd.returns] at h; cases h)
          refine ⟨_, _, k90 _ ?_, hrun, hended, _, _, rfl, ?_, ⟨_, rfl⟩, hW, hsame.mono (by decide) (by decide)⟩
          · exact retI X0 hx Bd.returns (hb hby d2_36) hr
          · show Q2 Z p2_0 h0 n0 _ s₁.heap _
            rw [e0]
            exact ⟨congrArg (fun z => some (Value.int z)) (show (((p2_0 - (97 : Int32)) + (26 : Int32)) : Int32) = own_ref p2_0 from by unfold own_ref; rw [if_neg hc3_2, if_pos hc9_47, if_neg hc20_49, if_neg hc26_70]), N0, rfl⟩
    · skip
      have k91 : ∀ t, Steps p.tables e below (s₁.setTop (mkF m 16 #[.val (.int p2_0)] [(.int (p2_0 - (65 : Int32)))])) t → Steps p.tables e below (s₁.setTop (entryFrame m #[(.int p2_0)] 1)) t := by
        intro t k
        refine k46 t ?_
        show Steps p.tables e below (s₁.setTop (mkF m 9 #[.val (.int p2_0)] [(.int (90 : Int32)), (.int p2_0)])) _
        refine XS.icmpNo X0.here hx rfl (hb hby d2_9) rfl (flt hc9_47).2.2.1 ?_
        show Steps p.tables e below (s₁.setTop (mkF m 12 #[.val (.int p2_0)] [])) _
        refine XS.iloadN X0.here hx rfl (hb hby d2_12) rfl ?_
        show Steps p.tables e below (s₁.setTop (mkF m 13 #[.val (.int p2_0)] [(.int p2_0)])) _
        refine XS.bipush X0.here hx rfl (hb hby d2_13) ?_
        show Steps p.tables e below (s₁.setTop (mkF m 15 #[.val (.int p2_0)] [(.int (65 : Int32)), (.int p2_0)])) _
        refine XS.isub X0.here hx rfl (hb hby d2_15) rfl ?_
        exact k
      obtain ⟨fs, hr, hrun, hended, hW, hsame⟩ := X0.leave (v := some (.int (p2_0 - (65 : Int32)))) (fun h => by rw [Bd.returns] at h; cases h)
      refine ⟨_, _, k91 _ ?_, hrun, hended, _, _, rfl, ?_, ⟨_, rfl⟩, hW, hsame.mono (by decide) (by decide)⟩
      · exact retI X0 hx Bd.returns (hb hby d2_16) hr
      · show Q2 Z p2_0 h0 n0 _ s₁.heap _
        rw [e0]
        exact ⟨congrArg (fun z => some (Value.int z)) (show ((p2_0 - (65 : Int32)) : Int32) = own_ref p2_0 from by unfold own_ref; rw [if_neg hc3_2, if_neg hc9_47]), N0, rfl⟩
theorem own_subf {args : Array Value} {s : State} {a b : Term} {idx : List Nat} {x y : Int32} (ha : a.eval args s none idx s = some (.int x)) (hb : b.eval args s none idx s = some (.int y)) : (Term.sub a b).eval args s none idx s = some (.int (x - y)) := by simp [Term.eval, ha, hb]
theorem own_i2lf {args : Array Value} {s : State} {a : Term} {idx : List Nat} {x : Int32} (ha : a.eval args s none idx s = some (.int x)) : (Term.op1 .i2l a).eval args s none idx s = some (.long x.toInt64) := op1_f ha
theorem own_laddf {args : Array Value} {s : State} {a b : Term} {idx : List Nat} {x y : Int64} (ha : a.eval args s none idx s = some (.long x)) (hb : b.eval args s none idx s = some (.long y)) : (Term.op2 .ladd a b).eval args s none idx s = some (.long (x + y)) := op2_f ha hb

set_option maxHeartbeats 4000000 in
theorem own_plain (j v : Int32) (h0 : ¬ j < 0) (h1 : j < 128) (f0 : (43 : Int32) ≤ j ∨ v = (-1 : Int32)) (f1 : ¬ j = (43 : Int32) ∨ v = (62 : Int32)) (f2 : ¬ j = (44 : Int32) ∨ v = (-1 : Int32)) (f3 : ¬ j = (45 : Int32) ∨ v = (-1 : Int32)) (f4 : ¬ j = (46 : Int32) ∨ v = (-1 : Int32)) (f5 : ¬ j = (47 : Int32) ∨ v = (63 : Int32)) (f6 : j < (48 : Int32) ∨ ¬ j < (58 : Int32) ∨ v.toInt64 = (j.toInt64 + (4 : Int64))) (f7 : j < (58 : Int32) ∨ ¬ j < (65 : Int32) ∨ v = (-1 : Int32)) (f8 : j < (65 : Int32) ∨ ¬ j < (91 : Int32) ∨ v = (j - (65 : Int32))) (f9 : j < (91 : Int32) ∨ ¬ j < (97 : Int32) ∨ v = (-1 : Int32)) (f10 : j < (97 : Int32) ∨ ¬ j < (123 : Int32) ∨ v = (j - (71 : Int32))) (f11 : j < (123 : Int32) ∨ v = (-1 : Int32)) : v = own_ref j := by
  rw [own_lt, show (0 : Int32).toInt = 0 from rfl] at h0
  rw [own_lt, show (128 : Int32).toInt = 128 from rfl] at h1
  by_cases q0 : j.toInt < 43
  · have hb0 : ¬ j.toInt < 0 := h0
    have hb1 := q0
    have hv : v.toInt = -1 := by
      clear f1 f2 f3 f4 f5 f6 f7 f8 f9 f10 f11
      simp only [own_lt, own_le, own_eqi, own_eqL, c_i2l, Int32.reduceToInt, Int64.reduceToInt] at *
      omega
    clear f0 f1 f2 f3 f4 f5 f6 f7 f8 f9 f10 f11
    have s1 := c_isub j 65
    have s2 := c_isub j 97
    have s3 := c_iadd (j - 97) 26
    have s4 := c_isub j 48
    have s5 := c_iadd (j - 48) 52
    have r1 := rng32 (j - 65)
    have r2 := rng32 (j - 97)
    have r3 := rng32 (j - 97 + 26)
    have r4 := rng32 (j - 48)
    have r5 := rng32 (j - 48 + 52)
    unfold own_ref
    repeat' split
    all_goals (simp only [own_lt, own_eqi, Int32.reduceToInt] at *; omega)
  by_cases q1 : j.toInt < 44
  · have hb0 : ¬ j.toInt < 43 := q0
    have hb1 := q1
    have hv : v.toInt = 62 := by
      clear f0 f2 f3 f4 f5 f6 f7 f8 f9 f10 f11
      simp only [own_lt, own_le, own_eqi, own_eqL, c_i2l, Int32.reduceToInt, Int64.reduceToInt] at *
      omega
    clear f0 f1 f2 f3 f4 f5 f6 f7 f8 f9 f10 f11
    have s1 := c_isub j 65
    have s2 := c_isub j 97
    have s3 := c_iadd (j - 97) 26
    have s4 := c_isub j 48
    have s5 := c_iadd (j - 48) 52
    have r1 := rng32 (j - 65)
    have r2 := rng32 (j - 97)
    have r3 := rng32 (j - 97 + 26)
    have r4 := rng32 (j - 48)
    have r5 := rng32 (j - 48 + 52)
    unfold own_ref
    repeat' split
    all_goals (simp only [own_lt, own_eqi, Int32.reduceToInt] at *; omega)
  by_cases q2 : j.toInt < 45
  · have hb0 : ¬ j.toInt < 44 := q1
    have hb1 := q2
    have hv : v.toInt = -1 := by
      clear f0 f1 f3 f4 f5 f6 f7 f8 f9 f10 f11
      simp only [own_lt, own_le, own_eqi, own_eqL, c_i2l, Int32.reduceToInt, Int64.reduceToInt] at *
      omega
    clear f0 f1 f2 f3 f4 f5 f6 f7 f8 f9 f10 f11
    have s1 := c_isub j 65
    have s2 := c_isub j 97
    have s3 := c_iadd (j - 97) 26
    have s4 := c_isub j 48
    have s5 := c_iadd (j - 48) 52
    have r1 := rng32 (j - 65)
    have r2 := rng32 (j - 97)
    have r3 := rng32 (j - 97 + 26)
    have r4 := rng32 (j - 48)
    have r5 := rng32 (j - 48 + 52)
    unfold own_ref
    repeat' split
    all_goals (simp only [own_lt, own_eqi, Int32.reduceToInt] at *; omega)
  by_cases q3 : j.toInt < 46
  · have hb0 : ¬ j.toInt < 45 := q2
    have hb1 := q3
    have hv : v.toInt = -1 := by
      clear f0 f1 f2 f4 f5 f6 f7 f8 f9 f10 f11
      simp only [own_lt, own_le, own_eqi, own_eqL, c_i2l, Int32.reduceToInt, Int64.reduceToInt] at *
      omega
    clear f0 f1 f2 f3 f4 f5 f6 f7 f8 f9 f10 f11
    have s1 := c_isub j 65
    have s2 := c_isub j 97
    have s3 := c_iadd (j - 97) 26
    have s4 := c_isub j 48
    have s5 := c_iadd (j - 48) 52
    have r1 := rng32 (j - 65)
    have r2 := rng32 (j - 97)
    have r3 := rng32 (j - 97 + 26)
    have r4 := rng32 (j - 48)
    have r5 := rng32 (j - 48 + 52)
    unfold own_ref
    repeat' split
    all_goals (simp only [own_lt, own_eqi, Int32.reduceToInt] at *; omega)
  by_cases q4 : j.toInt < 47
  · have hb0 : ¬ j.toInt < 46 := q3
    have hb1 := q4
    have hv : v.toInt = -1 := by
      clear f0 f1 f2 f3 f5 f6 f7 f8 f9 f10 f11
      simp only [own_lt, own_le, own_eqi, own_eqL, c_i2l, Int32.reduceToInt, Int64.reduceToInt] at *
      omega
    clear f0 f1 f2 f3 f4 f5 f6 f7 f8 f9 f10 f11
    have s1 := c_isub j 65
    have s2 := c_isub j 97
    have s3 := c_iadd (j - 97) 26
    have s4 := c_isub j 48
    have s5 := c_iadd (j - 48) 52
    have r1 := rng32 (j - 65)
    have r2 := rng32 (j - 97)
    have r3 := rng32 (j - 97 + 26)
    have r4 := rng32 (j - 48)
    have r5 := rng32 (j - 48 + 52)
    unfold own_ref
    repeat' split
    all_goals (simp only [own_lt, own_eqi, Int32.reduceToInt] at *; omega)
  by_cases q5 : j.toInt < 48
  · have hb0 : ¬ j.toInt < 47 := q4
    have hb1 := q5
    have hv : v.toInt = 63 := by
      clear f0 f1 f2 f3 f4 f6 f7 f8 f9 f10 f11
      simp only [own_lt, own_le, own_eqi, own_eqL, c_i2l, Int32.reduceToInt, Int64.reduceToInt] at *
      omega
    clear f0 f1 f2 f3 f4 f5 f6 f7 f8 f9 f10 f11
    have s1 := c_isub j 65
    have s2 := c_isub j 97
    have s3 := c_iadd (j - 97) 26
    have s4 := c_isub j 48
    have s5 := c_iadd (j - 48) 52
    have r1 := rng32 (j - 65)
    have r2 := rng32 (j - 97)
    have r3 := rng32 (j - 97 + 26)
    have r4 := rng32 (j - 48)
    have r5 := rng32 (j - 48 + 52)
    unfold own_ref
    repeat' split
    all_goals (simp only [own_lt, own_eqi, Int32.reduceToInt] at *; omega)
  by_cases q6 : j.toInt < 58
  · have hb0 : ¬ j.toInt < 48 := q5
    have hb1 := q6
    have hv : v.toInt = j.toInt + 4 := by
      have c1 := c_ladd j.toInt64 4
      have r1 := rng64 (j.toInt64 + 4)
      rw [c_i2l] at c1
      clear f0 f1 f2 f3 f4 f5 f7 f8 f9 f10 f11
      simp only [own_lt, own_le, own_eqi, own_eqL, c_i2l, Int32.reduceToInt, Int64.reduceToInt] at *
      omega
    clear f0 f1 f2 f3 f4 f5 f6 f7 f8 f9 f10 f11
    have s1 := c_isub j 65
    have s2 := c_isub j 97
    have s3 := c_iadd (j - 97) 26
    have s4 := c_isub j 48
    have s5 := c_iadd (j - 48) 52
    have r1 := rng32 (j - 65)
    have r2 := rng32 (j - 97)
    have r3 := rng32 (j - 97 + 26)
    have r4 := rng32 (j - 48)
    have r5 := rng32 (j - 48 + 52)
    unfold own_ref
    repeat' split
    all_goals (simp only [own_lt, own_eqi, Int32.reduceToInt] at *; omega)
  by_cases q7 : j.toInt < 65
  · have hb0 : ¬ j.toInt < 58 := q6
    have hb1 := q7
    have hv : v.toInt = -1 := by
      clear f0 f1 f2 f3 f4 f5 f6 f8 f9 f10 f11
      simp only [own_lt, own_le, own_eqi, own_eqL, c_i2l, Int32.reduceToInt, Int64.reduceToInt] at *
      omega
    clear f0 f1 f2 f3 f4 f5 f6 f7 f8 f9 f10 f11
    have s1 := c_isub j 65
    have s2 := c_isub j 97
    have s3 := c_iadd (j - 97) 26
    have s4 := c_isub j 48
    have s5 := c_iadd (j - 48) 52
    have r1 := rng32 (j - 65)
    have r2 := rng32 (j - 97)
    have r3 := rng32 (j - 97 + 26)
    have r4 := rng32 (j - 48)
    have r5 := rng32 (j - 48 + 52)
    unfold own_ref
    repeat' split
    all_goals (simp only [own_lt, own_eqi, Int32.reduceToInt] at *; omega)
  by_cases q8 : j.toInt < 91
  · have hb0 : ¬ j.toInt < 65 := q7
    have hb1 := q8
    have hv : v.toInt = j.toInt - 65 := by
      have c1 := c_isub j 65
      have r1 := rng32 (j - 65)
      clear f0 f1 f2 f3 f4 f5 f6 f7 f9 f10 f11
      simp only [own_lt, own_le, own_eqi, own_eqL, c_i2l, Int32.reduceToInt, Int64.reduceToInt] at *
      omega
    clear f0 f1 f2 f3 f4 f5 f6 f7 f8 f9 f10 f11
    have s1 := c_isub j 65
    have s2 := c_isub j 97
    have s3 := c_iadd (j - 97) 26
    have s4 := c_isub j 48
    have s5 := c_iadd (j - 48) 52
    have r1 := rng32 (j - 65)
    have r2 := rng32 (j - 97)
    have r3 := rng32 (j - 97 + 26)
    have r4 := rng32 (j - 48)
    have r5 := rng32 (j - 48 + 52)
    unfold own_ref
    repeat' split
    all_goals (simp only [own_lt, own_eqi, Int32.reduceToInt] at *; omega)
  by_cases q9 : j.toInt < 97
  · have hb0 : ¬ j.toInt < 91 := q8
    have hb1 := q9
    have hv : v.toInt = -1 := by
      clear f0 f1 f2 f3 f4 f5 f6 f7 f8 f10 f11
      simp only [own_lt, own_le, own_eqi, own_eqL, c_i2l, Int32.reduceToInt, Int64.reduceToInt] at *
      omega
    clear f0 f1 f2 f3 f4 f5 f6 f7 f8 f9 f10 f11
    have s1 := c_isub j 65
    have s2 := c_isub j 97
    have s3 := c_iadd (j - 97) 26
    have s4 := c_isub j 48
    have s5 := c_iadd (j - 48) 52
    have r1 := rng32 (j - 65)
    have r2 := rng32 (j - 97)
    have r3 := rng32 (j - 97 + 26)
    have r4 := rng32 (j - 48)
    have r5 := rng32 (j - 48 + 52)
    unfold own_ref
    repeat' split
    all_goals (simp only [own_lt, own_eqi, Int32.reduceToInt] at *; omega)
  by_cases q10 : j.toInt < 123
  · have hb0 : ¬ j.toInt < 97 := q9
    have hb1 := q10
    have hv : v.toInt = j.toInt - 71 := by
      have c1 := c_isub j 71
      have r1 := rng32 (j - 71)
      clear f0 f1 f2 f3 f4 f5 f6 f7 f8 f9 f11
      simp only [own_lt, own_le, own_eqi, own_eqL, c_i2l, Int32.reduceToInt, Int64.reduceToInt] at *
      omega
    clear f0 f1 f2 f3 f4 f5 f6 f7 f8 f9 f10 f11
    have s1 := c_isub j 65
    have s2 := c_isub j 97
    have s3 := c_iadd (j - 97) 26
    have s4 := c_isub j 48
    have s5 := c_iadd (j - 48) 52
    have r1 := rng32 (j - 65)
    have r2 := rng32 (j - 97)
    have r3 := rng32 (j - 97 + 26)
    have r4 := rng32 (j - 48)
    have r5 := rng32 (j - 48 + 52)
    unfold own_ref
    repeat' split
    all_goals (simp only [own_lt, own_eqi, Int32.reduceToInt] at *; omega)
  have hb0 : ¬ j.toInt < 123 := q10
  have hb1 := h1
  have hv : v.toInt = -1 := by
    clear f0 f1 f2 f3 f4 f5 f6 f7 f8 f9 f10
    simp only [own_lt, own_le, own_eqi, own_eqL, c_i2l, Int32.reduceToInt, Int64.reduceToInt] at *
    omega
  clear f0 f1 f2 f3 f4 f5 f6 f7 f8 f9 f10 f11
  have s1 := c_isub j 65
  have s2 := c_isub j 97
  have s3 := c_iadd (j - 97) 26
  have s4 := c_isub j 48
  have s5 := c_iadd (j - 48) 52
  have r1 := rng32 (j - 65)
  have r2 := rng32 (j - 97)
  have r3 := rng32 (j - 97 + 26)
  have r4 := rng32 (j - 48)
  have r5 := rng32 (j - 48 + 52)
  unfold own_ref
  repeat' split
  all_goals (simp only [own_lt, own_eqi, Int32.reduceToInt] at *; omega)
theorem own_law (cl : Cell) (ht : ∀ j : Int32, ¬ j < 0 → j < 128 → atv cl j = own_ref j) (x : Int32) : own_val x cl = own_ref x := by
  by_cases h : x < 0
  · unfold own_val own_ref
    rw [if_pos h]
    repeat' split
    all_goals first | rfl | (exfalso; simp only [own_lt, own_eqi, Int32.reduceToInt] at *; omega)
  · by_cases h2 : x < 128
    · unfold own_val; rw [if_neg h, if_pos h2]; exact ht x h h2
    · unfold own_val own_ref
      rw [if_neg h, if_neg h2]
      repeat' split
      all_goals first | rfl | (exfalso; simp only [own_lt, own_eqi, Int32.reduceToInt] at *; omega)
theorem pd_0 : parseMethodDescriptor "(I)I" = some ⟨[.int], some .int⟩ := by decide +kernel
theorem ef_0 (m : MethodId) (p0_0 : Int32) (p0_1 : Int32) : entryFrame m #[(.int p0_0), (.int p0_1)] maxLocals = mkF m 0 #[.val (.int p0_0), .val (.int p0_1), .unset, .unset] [] := by first | (simp [entryFrame, mkF, argsToLocals, Value.category, maxLocals]; done) | rfl
def Q0 (Z : State) (p0_0 : Int32) (p0_1 : Int32) (u_VALUES : Addr) (cl_u_VALUES : Cell) (h0 : Heap) (n0 : Nat) (v : Option Value) (h : Heap) (L : List Loc) : Prop := v = some (.int (1 : Int32)) ∧ Fr n0 L
set_option maxRecDepth 65536 in
set_option maxHeartbeats 40000000 in
theorem rm0 (l : Launch) (Z : State) (a0 : Array Value) (hw : ∀ d ∈ tables_1, d.before a0 Z = true) (ws : List Jvm.Cond) (p0_0 : Int32) (p0_1 : Int32) (u_VALUES : Addr) (cl_u_VALUES : Cell) (h0 : Heap) (n0 : Nat) (Z0 : n0 ≤ h0.size) (S_VALUES : Sta Z h0 "com/example/fat_envelope/fatenvelope/Base64Alphabet" "VALUES" "[B" (.ref u_VALUES)) (Tb : Tab Z h0 u_VALUES cl_u_VALUES .byte (128 : Int32)) (htab : ∀ j : Int32, ¬ j < 0 → j < 128 → atv cl_u_VALUES j = own_ref j) :
    MetFree l x (head1 (Jvm.Cond.code x code maxLocals ret :: ws) room_1) (fun a U => a = #[(.int p0_0), (.int p0_1)] ∧ Z.Warmed39 U.vm ∧ U.heap = h0) (fun _ _ _ _ _ => True) (fun _ U o U' => ∃ v L, o = .returned v ∧ Q0 Z p0_0 p0_1 u_VALUES cl_u_VALUES h0 n0 v U'.heap L ∧ FrameEnd U o U' L 0 0) := by
  refine MetFree.of_bodySF (plainFor_of_name pn_1) hisR ?_
  intro p e s m args below meth c s₁ Bd hml0 hP hK
  obtain ⟨rfl, hZ, hh⟩ := hP
  have hx := Bd.exec
  have hby := Bd.bytes
  have hml : c.maxLocals = 4 := hml0
  have hown : s.vm.findClass "com/example/fat_envelope/fatenvelope/Base64AlphabetValuePinLaw" = some m.cls := findClass_of_methodNamed Bd.named
  have hnm := (name_of_methodNamed Bd.named Bd.method).1
  have X0 : Stand p l e room_1 s m #[(.int p0_0), (.int p0_1)] below meth c s₁ [] 0 0 := Stand.of_body Bd
  have e0 : s₁.heap = h0 := by rw [← hh, Bd.state]; rfl
  have N0 := Fr.nil n0
  have pre0 : ∀ t, Steps p.tables e below (s₁.setTop (mkF m 0 #[.val (.int p0_0), .val (.int p0_1), .unset, .unset] [])) t → Steps p.tables e below (s₁.setTop (entryFrame m #[(.int p0_0), (.int p0_1)] maxLocals)) t := fun t k => castTop (ef_0 m p0_0 p0_1) k
  have k1 : ∀ t, Steps p.tables e below (s₁.setTop (mkF m 5 #[.val (.int p0_0), .val (.int p0_1), .val (.int (p0_1 &&& (3 : Int32))), .unset] [(.int (p0_1 &&& (3 : Int32)))])) t → Steps p.tables e below (s₁.setTop (entryFrame m #[(.int p0_0), (.int p0_1)] maxLocals)) t := by
    intro t k
    refine pre0 t ?_
    show Steps p.tables e below (s₁.setTop (mkF m 0 #[.val (.int p0_0), .val (.int p0_1), .unset, .unset] [])) _
    refine XS.iloadN X0.here hx rfl (hb hby at_0) rfl ?_
    show Steps p.tables e below (s₁.setTop (mkF m 1 #[.val (.int p0_0), .val (.int p0_1), .unset, .unset] [(.int p0_1)])) _
    refine XS.iconst X0.here hx rfl (hb hby at_1) ?_
    show Steps p.tables e below (s₁.setTop (mkF m 2 #[.val (.int p0_0), .val (.int p0_1), .unset, .unset] [(.int (3 : Int32)), (.int p0_1)])) _
    refine XS.iand X0.here hx rfl (hb hby at_2) rfl ?_
    show Steps p.tables e below (s₁.setTop (mkF m 3 #[.val (.int p0_0), .val (.int p0_1), .unset, .unset] [(.int (p0_1 &&& (3 : Int32)))])) _
    refine XS.istoreN X0.here hx rfl (hb hby at_3) rfl (l' := #[.val (.int p0_0), .val (.int p0_1), .val (.int (p0_1 &&& (3 : Int32))), .unset]) rfl ?_
    show Steps p.tables e below (s₁.setTop (mkF m 4 #[.val (.int p0_0), .val (.int p0_1), .val (.int (p0_1 &&& (3 : Int32))), .unset] [])) _
    refine XS.iloadN X0.here hx rfl (hb hby at_4) rfl ?_
    exact k
  by_cases hc5_2 : (p0_1 &&& (3 : Int32)) = (0 : Int32)
  · skip
    obtain ⟨_, _, ⟨T3, L3, k3, n3⟩, -, X3, ⟨Lc3, hQ3, l3, y3, z3⟩, st3⟩ := Jvm.LawKit.callS X0 hx (y := (⟨"com/example/fat_envelope/fatenvelope/Base64Alphabet", "value", "(I)I"⟩ : MethodName)) hown (mvT hZ (hw _ (List.mem_of_getElem? (i := 1) rfl))) (mvT hZ (hw _ (List.mem_of_getElem? (i := 2) rfl))) (mvT hZ (hw _ (List.mem_of_getElem? (i := 3) rfl))) (mvT hZ (hw _ (List.mem_of_getElem? (i := 4) rfl))) (by decide) (backOf (W := 0) (rm1 l Z a0 hw [] p0_0 u_VALUES cl_u_VALUES h0 n0 Z0 S_VALUES Tb) hZ (hw _ (List.mem_of_getElem? (i := 4) rfl)) (hw _ (List.mem_of_getElem? (i := 3) rfl)) (by decide) (by decide)) (g := (mkF m 46 #[.val (.int p0_0), .val (.int p0_1), .val (.int (p0_1 &&& (3 : Int32))), .val (.int p0_0)] [(.int p0_0)])) rfl (by rw [hml]; rfl) (argsL := [(.int p0_0)]) (rest := []) (lenOf pd_0 rfl) rfl (by show 2 * 0 + _ ≤ _; exact Nat.le_of_eq rfl) (hb hby at_46) (fun _ _ => ⟨rfl, e0, (by decide : 0 + 0 ≤ _), (by decide : 0 + 0 ≤ _)⟩)
    dsimp only [Pt.U, Pt.locs, Pt.cells, Pt.slots] at X3 l3 y3 z3 st3 hQ3
    subst l3 y3 z3
    obtain ⟨rfl, N3q, eh3⟩ := hQ3
    have N3 := Fr.app N0 N3q
    obtain ⟨_, _, ⟨T4, L4, k4, n4⟩, -, X4, ⟨Lc4, hQ4, l4, y4, z4⟩, st4⟩ := Jvm.LawKit.callS X3 hx (y := (⟨"com/example/fat_envelope/fatenvelope/Base64AlphabetValuePinLaw", "reference", "(I)I"⟩ : MethodName)) hown (mvT hZ (hw _ (List.mem_of_getElem? (i := 7) rfl))) (mvT hZ (hw _ (List.mem_of_getElem? (i := 8) rfl))) (mvT hZ (hw _ (List.mem_of_getElem? (i := 9) rfl))) (mvT hZ (hw _ (List.mem_of_getElem? (i := 10) rfl))) (by decide) (backOf (W := 1) (rm2 l Z a0 hw [] p0_0 h0 n0 Z0 ) hZ (hw _ (List.mem_of_getElem? (i := 10) rfl)) (hw _ (List.mem_of_getElem? (i := 9) rfl)) (by decide) (by decide)) (g := (mkF m 50 #[.val (.int p0_0), .val (.int p0_1), .val (.int (p0_1 &&& (3 : Int32))), .val (.int p0_0)] [(.int p0_0), (.int (own_val p0_0 cl_u_VALUES))])) rfl (by rw [hml]; rfl) (argsL := [(.int p0_0)]) (rest := [(.int (own_val p0_0 cl_u_VALUES))]) (lenOf pd_0 rfl) rfl (by show 2 * 0 + _ ≤ _; exact Nat.le_of_eq rfl) (hb hby at_50) (fun _ _ => ⟨rfl, eh3, (by decide : 0 + 0 ≤ _), (by decide : 0 + 0 ≤ _)⟩)
    dsimp only [Pt.U, Pt.locs, Pt.cells, Pt.slots] at X4 l4 y4 z4 st4 hQ4
    subst l4 y4 z4
    obtain ⟨rfl, N4q, eh4⟩ := hQ4
    have N4 := Fr.app N3 N4q
    have k5 : ∀ t, Steps p.tables e below (T4.setTop (mkF m 61 #[.val (.int p0_0), .val (.int p0_1), .val (.int (p0_1 &&& (3 : Int32))), .val (.int p0_0)] [(.int (1 : Int32))])) t → Steps p.tables e below (s₁.setTop (entryFrame m #[(.int p0_0), (.int p0_1)] maxLocals)) t := by
      intro t k
      refine k1 t ?_
      show Steps p.tables e below (s₁.setTop (mkF m 5 #[.val (.int p0_0), .val (.int p0_1), .val (.int (p0_1 &&& (3 : Int32))), .unset] [(.int (p0_1 &&& (3 : Int32)))])) _
      refine XS.ifNo X0.here hx rfl (hb hby at_5) rfl ((if0 _ _).trans (teq hc5_2).2) ?_
      show Steps p.tables e below (s₁.setTop (mkF m 8 #[.val (.int p0_0), .val (.int p0_1), .val (.int (p0_1 &&& (3 : Int32))), .unset] [])) _
      refine XS.iloadN X0.here hx rfl (hb hby at_8) rfl ?_
      show Steps p.tables e below (s₁.setTop (mkF m 9 #[.val (.int p0_0), .val (.int p0_1), .val (.int (p0_1 &&& (3 : Int32))), .unset] [(.int p0_0)])) _
      refine XS.istoreN X0.here hx rfl (hb hby at_9) rfl (l' := #[.val (.int p0_0), .val (.int p0_1), .val (.int (p0_1 &&& (3 : Int32))), .val (.int p0_0)]) rfl ?_
      show Steps p.tables e below (s₁.setTop (mkF m 10 #[.val (.int p0_0), .val (.int p0_1), .val (.int (p0_1 &&& (3 : Int32))), .val (.int p0_0)] [])) _
      refine XS.goto X0.here hx rfl (pc0 := 10) (pc' := 45) rfl (hb hby at_10) (by decide) (by decide) ?_
      show Steps p.tables e below (s₁.setTop (mkF m 45 #[.val (.int p0_0), .val (.int p0_1), .val (.int (p0_1 &&& (3 : Int32))), .val (.int p0_0)] [])) _
      refine XS.iloadN X0.here hx rfl (hb hby at_45) rfl ?_
      show Steps p.tables e below (s₁.setTop (mkF m 46 #[.val (.int p0_0), .val (.int p0_1), .val (.int (p0_1 &&& (3 : Int32))), .val (.int p0_0)] [(.int p0_0)])) _
      refine st3 _ ?_
      show Steps p.tables e below (T3.setTop (mkF m 49 #[.val (.int p0_0), .val (.int p0_1), .val (.int (p0_1 &&& (3 : Int32))), .val (.int p0_0)] [(.int (own_val p0_0 cl_u_VALUES))])) _
      refine XS.iloadN X3.here hx rfl (hb hby at_49) rfl ?_
      show Steps p.tables e below (T3.setTop (mkF m 50 #[.val (.int p0_0), .val (.int p0_1), .val (.int (p0_1 &&& (3 : Int32))), .val (.int p0_0)] [(.int p0_0), (.int (own_val p0_0 cl_u_VALUES))])) _
      refine st4 _ ?_
      show Steps p.tables e below (T4.setTop (mkF m 53 #[.val (.int p0_0), .val (.int p0_1), .val (.int (p0_1 &&& (3 : Int32))), .val (.int p0_0)] [(.int (own_ref p0_0)), (.int (own_val p0_0 cl_u_VALUES))])) _
      refine XS.icmpNo X4.here hx rfl (hb hby at_53) rfl (teq (own_law _ htab _)).2 ?_
      show Steps p.tables e below (T4.setTop (mkF m 56 #[.val (.int p0_0), .val (.int p0_1), .val (.int (p0_1 &&& (3 : Int32))), .val (.int p0_0)] [])) _
      refine XS.iconst X4.here hx rfl (hb hby at_56) ?_
      show Steps p.tables e below (T4.setTop (mkF m 57 #[.val (.int p0_0), .val (.int p0_1), .val (.int (p0_1 &&& (3 : Int32))), .val (.int p0_0)] [(.int (1 : Int32))])) _
      refine XS.goto X4.here hx rfl (pc0 := 57) (pc' := 61) rfl (hb hby at_57) (by decide) (by decide) ?_
      exact k
    obtain ⟨fs, hr, hrun, hended, hW, hsame⟩ := X4.leave (v := some (.int (1 : Int32))) (fun h => by rw [Bd.returns] at h; cases h)
    refine ⟨_, _, k5 _ ?_, hrun, hended, _, _, rfl, ?_, ⟨_, rfl⟩, hW, hsame.mono (by decide) (by decide)⟩
    · exact retN X4 hx (t := .boolean) Bd.returns (by simp) (hb hby at_61) hr
    · show Q0 Z p0_0 p0_1 u_VALUES cl_u_VALUES h0 n0 _ T4.heap _
      rw [eh4]
      exact ⟨rfl, N4⟩
  · skip
    have k6 : ∀ t, Steps p.tables e below (s₁.setTop (mkF m 15 #[.val (.int p0_0), .val (.int p0_1), .val (.int (p0_1 &&& (3 : Int32))), .unset] [(.int (1 : Int32)), (.int (p0_1 &&& (3 : Int32)))])) t → Steps p.tables e below (s₁.setTop (entryFrame m #[(.int p0_0), (.int p0_1)] maxLocals)) t := by
      intro t k
      refine k1 t ?_
      show Steps p.tables e below (s₁.setTop (mkF m 5 #[.val (.int p0_0), .val (.int p0_1), .val (.int (p0_1 &&& (3 : Int32))), .unset] [(.int (p0_1 &&& (3 : Int32)))])) _
      refine XS.ifYes X0.here hx rfl (pc0 := 5) (pc' := 13) rfl (hb hby at_5) rfl ((if0 _ _).trans (feq hc5_2).2) (by decide) (by decide) ?_
      show Steps p.tables e below (s₁.setTop (mkF m 13 #[.val (.int p0_0), .val (.int p0_1), .val (.int (p0_1 &&& (3 : Int32))), .unset] [])) _
      refine XS.iloadN X0.here hx rfl (hb hby at_13) rfl ?_
      show Steps p.tables e below (s₁.setTop (mkF m 14 #[.val (.int p0_0), .val (.int p0_1), .val (.int (p0_1 &&& (3 : Int32))), .unset] [(.int (p0_1 &&& (3 : Int32)))])) _
      refine XS.iconst X0.here hx rfl (hb hby at_14) ?_
      exact k
    by_cases hc15_7 : (p0_1 &&& (3 : Int32)) = (1 : Int32)
    · skip
      obtain ⟨_, _, ⟨T8, L8, k8, n8⟩, -, X8, ⟨Lc8, hQ8, l8, y8, z8⟩, st8⟩ := Jvm.LawKit.callS X0 hx (y := (⟨"com/example/fat_envelope/fatenvelope/Base64Alphabet", "value", "(I)I"⟩ : MethodName)) hown (mvT hZ (hw _ (List.mem_of_getElem? (i := 1) rfl))) (mvT hZ (hw _ (List.mem_of_getElem? (i := 2) rfl))) (mvT hZ (hw _ (List.mem_of_getElem? (i := 3) rfl))) (mvT hZ (hw _ (List.mem_of_getElem? (i := 4) rfl))) (by decide) (backOf (W := 0) (rm1 l Z a0 hw [] (p0_0 &&& (255 : Int32)) u_VALUES cl_u_VALUES h0 n0 Z0 S_VALUES Tb) hZ (hw _ (List.mem_of_getElem? (i := 4) rfl)) (hw _ (List.mem_of_getElem? (i := 3) rfl)) (by decide) (by decide)) (g := (mkF m 46 #[.val (.int p0_0), .val (.int p0_1), .val (.int (p0_1 &&& (3 : Int32))), .val (.int (p0_0 &&& (255 : Int32)))] [(.int (p0_0 &&& (255 : Int32)))])) rfl (by rw [hml]; rfl) (argsL := [(.int (p0_0 &&& (255 : Int32)))]) (rest := []) (lenOf pd_0 rfl) rfl (by show 2 * 0 + _ ≤ _; exact Nat.le_of_eq rfl) (hb hby at_46) (fun _ _ => ⟨rfl, e0, (by decide : 0 + 0 ≤ _), (by decide : 0 + 0 ≤ _)⟩)
      dsimp only [Pt.U, Pt.locs, Pt.cells, Pt.slots] at X8 l8 y8 z8 st8 hQ8
      subst l8 y8 z8
      obtain ⟨rfl, N8q, eh8⟩ := hQ8
      have N8 := Fr.app N0 N8q
      obtain ⟨_, _, ⟨T9, L9, k9, n9⟩, -, X9, ⟨Lc9, hQ9, l9, y9, z9⟩, st9⟩ := Jvm.LawKit.callS X8 hx (y := (⟨"com/example/fat_envelope/fatenvelope/Base64AlphabetValuePinLaw", "reference", "(I)I"⟩ : MethodName)) hown (mvT hZ (hw _ (List.mem_of_getElem? (i := 7) rfl))) (mvT hZ (hw _ (List.mem_of_getElem? (i := 8) rfl))) (mvT hZ (hw _ (List.mem_of_getElem? (i := 9) rfl))) (mvT hZ (hw _ (List.mem_of_getElem? (i := 10) rfl))) (by decide) (backOf (W := 1) (rm2 l Z a0 hw [] (p0_0 &&& (255 : Int32)) h0 n0 Z0 ) hZ (hw _ (List.mem_of_getElem? (i := 10) rfl)) (hw _ (List.mem_of_getElem? (i := 9) rfl)) (by decide) (by decide)) (g := (mkF m 50 #[.val (.int p0_0), .val (.int p0_1), .val (.int (p0_1 &&& (3 : Int32))), .val (.int (p0_0 &&& (255 : Int32)))] [(.int (p0_0 &&& (255 : Int32))), (.int (own_val (p0_0 &&& (255 : Int32)) cl_u_VALUES))])) rfl (by rw [hml]; rfl) (argsL := [(.int (p0_0 &&& (255 : Int32)))]) (rest := [(.int (own_val (p0_0 &&& (255 : Int32)) cl_u_VALUES))]) (lenOf pd_0 rfl) rfl (by show 2 * 0 + _ ≤ _; exact Nat.le_of_eq rfl) (hb hby at_50) (fun _ _ => ⟨rfl, eh8, (by decide : 0 + 0 ≤ _), (by decide : 0 + 0 ≤ _)⟩)
      dsimp only [Pt.U, Pt.locs, Pt.cells, Pt.slots] at X9 l9 y9 z9 st9 hQ9
      subst l9 y9 z9
      obtain ⟨rfl, N9q, eh9⟩ := hQ9
      have N9 := Fr.app N8 N9q
      have k10 : ∀ t, Steps p.tables e below (T9.setTop (mkF m 61 #[.val (.int p0_0), .val (.int p0_1), .val (.int (p0_1 &&& (3 : Int32))), .val (.int (p0_0 &&& (255 : Int32)))] [(.int (1 : Int32))])) t → Steps p.tables e below (s₁.setTop (entryFrame m #[(.int p0_0), (.int p0_1)] maxLocals)) t := by
        intro t k
        refine k6 t ?_
        show Steps p.tables e below (s₁.setTop (mkF m 15 #[.val (.int p0_0), .val (.int p0_1), .val (.int (p0_1 &&& (3 : Int32))), .unset] [(.int (1 : Int32)), (.int (p0_1 &&& (3 : Int32)))])) _
        refine XS.icmpNo X0.here hx rfl (hb hby at_15) rfl (teq hc15_7).2 ?_
        show Steps p.tables e below (s₁.setTop (mkF m 18 #[.val (.int p0_0), .val (.int p0_1), .val (.int (p0_1 &&& (3 : Int32))), .unset] [])) _
        refine XS.iloadN X0.here hx rfl (hb hby at_18) rfl ?_
        show Steps p.tables e below (s₁.setTop (mkF m 19 #[.val (.int p0_0), .val (.int p0_1), .val (.int (p0_1 &&& (3 : Int32))), .unset] [(.int p0_0)])) _
        refine XS.sipush X0.here hx rfl (hb hby at_19) ?_
        show Steps p.tables e below (s₁.setTop (mkF m 22 #[.val (.int p0_0), .val (.int p0_1), .val (.int (p0_1 &&& (3 : Int32))), .unset] [(.int (255 : Int32)), (.int p0_0)])) _
        refine XS.iand X0.here hx rfl (hb hby at_22) rfl ?_
        show Steps p.tables e below (s₁.setTop (mkF m 23 #[.val (.int p0_0), .val (.int p0_1), .val (.int (p0_1 &&& (3 : Int32))), .unset] [(.int (p0_0 &&& (255 : Int32)))])) _
        refine XS.istoreN X0.here hx rfl (hb hby at_23) rfl (l' := #[.val (.int p0_0), .val (.int p0_1), .val (.int (p0_1 &&& (3 : Int32))), .val (.int (p0_0 &&& (255 : Int32)))]) rfl ?_
        show Steps p.tables e below (s₁.setTop (mkF m 24 #[.val (.int p0_0), .val (.int p0_1), .val (.int (p0_1 &&& (3 : Int32))), .val (.int (p0_0 &&& (255 : Int32)))] [])) _
        refine XS.goto X0.here hx rfl (pc0 := 24) (pc' := 45) rfl (hb hby at_24) (by decide) (by decide) ?_
        show Steps p.tables e below (s₁.setTop (mkF m 45 #[.val (.int p0_0), .val (.int p0_1), .val (.int (p0_1 &&& (3 : Int32))), .val (.int (p0_0 &&& (255 : Int32)))] [])) _
        refine XS.iloadN X0.here hx rfl (hb hby at_45) rfl ?_
        show Steps p.tables e below (s₁.setTop (mkF m 46 #[.val (.int p0_0), .val (.int p0_1), .val (.int (p0_1 &&& (3 : Int32))), .val (.int (p0_0 &&& (255 : Int32)))] [(.int (p0_0 &&& (255 : Int32)))])) _
        refine st8 _ ?_
        show Steps p.tables e below (T8.setTop (mkF m 49 #[.val (.int p0_0), .val (.int p0_1), .val (.int (p0_1 &&& (3 : Int32))), .val (.int (p0_0 &&& (255 : Int32)))] [(.int (own_val (p0_0 &&& (255 : Int32)) cl_u_VALUES))])) _
        refine XS.iloadN X8.here hx rfl (hb hby at_49) rfl ?_
        show Steps p.tables e below (T8.setTop (mkF m 50 #[.val (.int p0_0), .val (.int p0_1), .val (.int (p0_1 &&& (3 : Int32))), .val (.int (p0_0 &&& (255 : Int32)))] [(.int (p0_0 &&& (255 : Int32))), (.int (own_val (p0_0 &&& (255 : Int32)) cl_u_VALUES))])) _
        refine st9 _ ?_
        show Steps p.tables e below (T9.setTop (mkF m 53 #[.val (.int p0_0), .val (.int p0_1), .val (.int (p0_1 &&& (3 : Int32))), .val (.int (p0_0 &&& (255 : Int32)))] [(.int (own_ref (p0_0 &&& (255 : Int32)))), (.int (own_val (p0_0 &&& (255 : Int32)) cl_u_VALUES))])) _
        refine XS.icmpNo X9.here hx rfl (hb hby at_53) rfl (teq (own_law _ htab _)).2 ?_
        show Steps p.tables e below (T9.setTop (mkF m 56 #[.val (.int p0_0), .val (.int p0_1), .val (.int (p0_1 &&& (3 : Int32))), .val (.int (p0_0 &&& (255 : Int32)))] [])) _
        refine XS.iconst X9.here hx rfl (hb hby at_56) ?_
        show Steps p.tables e below (T9.setTop (mkF m 57 #[.val (.int p0_0), .val (.int p0_1), .val (.int (p0_1 &&& (3 : Int32))), .val (.int (p0_0 &&& (255 : Int32)))] [(.int (1 : Int32))])) _
        refine XS.goto X9.here hx rfl (pc0 := 57) (pc' := 61) rfl (hb hby at_57) (by decide) (by decide) ?_
        exact k
      obtain ⟨fs, hr, hrun, hended, hW, hsame⟩ := X9.leave (v := some (.int (1 : Int32))) (fun h => by rw [Bd.returns] at h; cases h)
      refine ⟨_, _, k10 _ ?_, hrun, hended, _, _, rfl, ?_, ⟨_, rfl⟩, hW, hsame.mono (by decide) (by decide)⟩
      · exact retN X9 hx (t := .boolean) Bd.returns (by simp) (hb hby at_61) hr
      · show Q0 Z p0_0 p0_1 u_VALUES cl_u_VALUES h0 n0 _ T9.heap _
        rw [eh9]
        exact ⟨rfl, N9⟩
    · skip
      have k11 : ∀ t, Steps p.tables e below (s₁.setTop (mkF m 29 #[.val (.int p0_0), .val (.int p0_1), .val (.int (p0_1 &&& (3 : Int32))), .unset] [(.int (2 : Int32)), (.int (p0_1 &&& (3 : Int32)))])) t → Steps p.tables e below (s₁.setTop (entryFrame m #[(.int p0_0), (.int p0_1)] maxLocals)) t := by
        intro t k
        refine k6 t ?_
        show Steps p.tables e below (s₁.setTop (mkF m 15 #[.val (.int p0_0), .val (.int p0_1), .val (.int (p0_1 &&& (3 : Int32))), .unset] [(.int (1 : Int32)), (.int (p0_1 &&& (3 : Int32)))])) _
        refine XS.icmpYes X0.here hx rfl (pc0 := 15) (pc' := 27) rfl (hb hby at_15) rfl (feq hc15_7).2 (by decide) (by decide) ?_
        show Steps p.tables e below (s₁.setTop (mkF m 27 #[.val (.int p0_0), .val (.int p0_1), .val (.int (p0_1 &&& (3 : Int32))), .unset] [])) _
        refine XS.iloadN X0.here hx rfl (hb hby at_27) rfl ?_
        show Steps p.tables e below (s₁.setTop (mkF m 28 #[.val (.int p0_0), .val (.int p0_1), .val (.int (p0_1 &&& (3 : Int32))), .unset] [(.int (p0_1 &&& (3 : Int32)))])) _
        refine XS.iconst X0.here hx rfl (hb hby at_28) ?_
        exact k
      by_cases hc29_12 : (p0_1 &&& (3 : Int32)) = (2 : Int32)
      · skip
        obtain ⟨_, _, ⟨T13, L13, k13, n13⟩, -, X13, ⟨Lc13, hQ13, l13, y13, z13⟩, st13⟩ := Jvm.LawKit.callS X0 hx (y := (⟨"com/example/fat_envelope/fatenvelope/Base64Alphabet", "value", "(I)I"⟩ : MethodName)) hown (mvT hZ (hw _ (List.mem_of_getElem? (i := 1) rfl))) (mvT hZ (hw _ (List.mem_of_getElem? (i := 2) rfl))) (mvT hZ (hw _ (List.mem_of_getElem? (i := 3) rfl))) (mvT hZ (hw _ (List.mem_of_getElem? (i := 4) rfl))) (by decide) (backOf (W := 0) (rm1 l Z a0 hw [] (p0_0 &&& (127 : Int32)) u_VALUES cl_u_VALUES h0 n0 Z0 S_VALUES Tb) hZ (hw _ (List.mem_of_getElem? (i := 4) rfl)) (hw _ (List.mem_of_getElem? (i := 3) rfl)) (by decide) (by decide)) (g := (mkF m 46 #[.val (.int p0_0), .val (.int p0_1), .val (.int (p0_1 &&& (3 : Int32))), .val (.int (p0_0 &&& (127 : Int32)))] [(.int (p0_0 &&& (127 : Int32)))])) rfl (by rw [hml]; rfl) (argsL := [(.int (p0_0 &&& (127 : Int32)))]) (rest := []) (lenOf pd_0 rfl) rfl (by show 2 * 0 + _ ≤ _; exact Nat.le_of_eq rfl) (hb hby at_46) (fun _ _ => ⟨rfl, e0, (by decide : 0 + 0 ≤ _), (by decide : 0 + 0 ≤ _)⟩)
        dsimp only [Pt.U, Pt.locs, Pt.cells, Pt.slots] at X13 l13 y13 z13 st13 hQ13
        subst l13 y13 z13
        obtain ⟨rfl, N13q, eh13⟩ := hQ13
        have N13 := Fr.app N0 N13q
        obtain ⟨_, _, ⟨T14, L14, k14, n14⟩, -, X14, ⟨Lc14, hQ14, l14, y14, z14⟩, st14⟩ := Jvm.LawKit.callS X13 hx (y := (⟨"com/example/fat_envelope/fatenvelope/Base64AlphabetValuePinLaw", "reference", "(I)I"⟩ : MethodName)) hown (mvT hZ (hw _ (List.mem_of_getElem? (i := 7) rfl))) (mvT hZ (hw _ (List.mem_of_getElem? (i := 8) rfl))) (mvT hZ (hw _ (List.mem_of_getElem? (i := 9) rfl))) (mvT hZ (hw _ (List.mem_of_getElem? (i := 10) rfl))) (by decide) (backOf (W := 1) (rm2 l Z a0 hw [] (p0_0 &&& (127 : Int32)) h0 n0 Z0 ) hZ (hw _ (List.mem_of_getElem? (i := 10) rfl)) (hw _ (List.mem_of_getElem? (i := 9) rfl)) (by decide) (by decide)) (g := (mkF m 50 #[.val (.int p0_0), .val (.int p0_1), .val (.int (p0_1 &&& (3 : Int32))), .val (.int (p0_0 &&& (127 : Int32)))] [(.int (p0_0 &&& (127 : Int32))), (.int (own_val (p0_0 &&& (127 : Int32)) cl_u_VALUES))])) rfl (by rw [hml]; rfl) (argsL := [(.int (p0_0 &&& (127 : Int32)))]) (rest := [(.int (own_val (p0_0 &&& (127 : Int32)) cl_u_VALUES))]) (lenOf pd_0 rfl) rfl (by show 2 * 0 + _ ≤ _; exact Nat.le_of_eq rfl) (hb hby at_50) (fun _ _ => ⟨rfl, eh13, (by decide : 0 + 0 ≤ _), (by decide : 0 + 0 ≤ _)⟩)
        dsimp only [Pt.U, Pt.locs, Pt.cells, Pt.slots] at X14 l14 y14 z14 st14 hQ14
        subst l14 y14 z14
        obtain ⟨rfl, N14q, eh14⟩ := hQ14
        have N14 := Fr.app N13 N14q
        have k15 : ∀ t, Steps p.tables e below (T14.setTop (mkF m 61 #[.val (.int p0_0), .val (.int p0_1), .val (.int (p0_1 &&& (3 : Int32))), .val (.int (p0_0 &&& (127 : Int32)))] [(.int (1 : Int32))])) t → Steps p.tables e below (s₁.setTop (entryFrame m #[(.int p0_0), (.int p0_1)] maxLocals)) t := by
          intro t k
          refine k11 t ?_
          show Steps p.tables e below (s₁.setTop (mkF m 29 #[.val (.int p0_0), .val (.int p0_1), .val (.int (p0_1 &&& (3 : Int32))), .unset] [(.int (2 : Int32)), (.int (p0_1 &&& (3 : Int32)))])) _
          refine XS.icmpNo X0.here hx rfl (hb hby at_29) rfl (teq hc29_12).2 ?_
          show Steps p.tables e below (s₁.setTop (mkF m 32 #[.val (.int p0_0), .val (.int p0_1), .val (.int (p0_1 &&& (3 : Int32))), .unset] [])) _
          refine XS.iloadN X0.here hx rfl (hb hby at_32) rfl ?_
          show Steps p.tables e below (s₁.setTop (mkF m 33 #[.val (.int p0_0), .val (.int p0_1), .val (.int (p0_1 &&& (3 : Int32))), .unset] [(.int p0_0)])) _
          refine XS.bipush X0.here hx rfl (hb hby at_33) ?_
          show Steps p.tables e below (s₁.setTop (mkF m 35 #[.val (.int p0_0), .val (.int p0_1), .val (.int (p0_1 &&& (3 : Int32))), .unset] [(.int (127 : Int32)), (.int p0_0)])) _
          refine XS.iand X0.here hx rfl (hb hby at_35) rfl ?_
          show Steps p.tables e below (s₁.setTop (mkF m 36 #[.val (.int p0_0), .val (.int p0_1), .val (.int (p0_1 &&& (3 : Int32))), .unset] [(.int (p0_0 &&& (127 : Int32)))])) _
          refine XS.istoreN X0.here hx rfl (hb hby at_36) rfl (l' := #[.val (.int p0_0), .val (.int p0_1), .val (.int (p0_1 &&& (3 : Int32))), .val (.int (p0_0 &&& (127 : Int32)))]) rfl ?_
          show Steps p.tables e below (s₁.setTop (mkF m 37 #[.val (.int p0_0), .val (.int p0_1), .val (.int (p0_1 &&& (3 : Int32))), .val (.int (p0_0 &&& (127 : Int32)))] [])) _
          refine XS.goto X0.here hx rfl (pc0 := 37) (pc' := 45) rfl (hb hby at_37) (by decide) (by decide) ?_
          show Steps p.tables e below (s₁.setTop (mkF m 45 #[.val (.int p0_0), .val (.int p0_1), .val (.int (p0_1 &&& (3 : Int32))), .val (.int (p0_0 &&& (127 : Int32)))] [])) _
          refine XS.iloadN X0.here hx rfl (hb hby at_45) rfl ?_
          show Steps p.tables e below (s₁.setTop (mkF m 46 #[.val (.int p0_0), .val (.int p0_1), .val (.int (p0_1 &&& (3 : Int32))), .val (.int (p0_0 &&& (127 : Int32)))] [(.int (p0_0 &&& (127 : Int32)))])) _
          refine st13 _ ?_
          show Steps p.tables e below (T13.setTop (mkF m 49 #[.val (.int p0_0), .val (.int p0_1), .val (.int (p0_1 &&& (3 : Int32))), .val (.int (p0_0 &&& (127 : Int32)))] [(.int (own_val (p0_0 &&& (127 : Int32)) cl_u_VALUES))])) _
          refine XS.iloadN X13.here hx rfl (hb hby at_49) rfl ?_
          show Steps p.tables e below (T13.setTop (mkF m 50 #[.val (.int p0_0), .val (.int p0_1), .val (.int (p0_1 &&& (3 : Int32))), .val (.int (p0_0 &&& (127 : Int32)))] [(.int (p0_0 &&& (127 : Int32))), (.int (own_val (p0_0 &&& (127 : Int32)) cl_u_VALUES))])) _
          refine st14 _ ?_
          show Steps p.tables e below (T14.setTop (mkF m 53 #[.val (.int p0_0), .val (.int p0_1), .val (.int (p0_1 &&& (3 : Int32))), .val (.int (p0_0 &&& (127 : Int32)))] [(.int (own_ref (p0_0 &&& (127 : Int32)))), (.int (own_val (p0_0 &&& (127 : Int32)) cl_u_VALUES))])) _
          refine XS.icmpNo X14.here hx rfl (hb hby at_53) rfl (teq (own_law _ htab _)).2 ?_
          show Steps p.tables e below (T14.setTop (mkF m 56 #[.val (.int p0_0), .val (.int p0_1), .val (.int (p0_1 &&& (3 : Int32))), .val (.int (p0_0 &&& (127 : Int32)))] [])) _
          refine XS.iconst X14.here hx rfl (hb hby at_56) ?_
          show Steps p.tables e below (T14.setTop (mkF m 57 #[.val (.int p0_0), .val (.int p0_1), .val (.int (p0_1 &&& (3 : Int32))), .val (.int (p0_0 &&& (127 : Int32)))] [(.int (1 : Int32))])) _
          refine XS.goto X14.here hx rfl (pc0 := 57) (pc' := 61) rfl (hb hby at_57) (by decide) (by decide) ?_
          exact k
        obtain ⟨fs, hr, hrun, hended, hW, hsame⟩ := X14.leave (v := some (.int (1 : Int32))) (fun h => by rw [Bd.returns] at h; cases h)
        refine ⟨_, _, k15 _ ?_, hrun, hended, _, _, rfl, ?_, ⟨_, rfl⟩, hW, hsame.mono (by decide) (by decide)⟩
        · exact retN X14 hx (t := .boolean) Bd.returns (by simp) (hb hby at_61) hr
        · show Q0 Z p0_0 p0_1 u_VALUES cl_u_VALUES h0 n0 _ T14.heap _
          rw [eh14]
          exact ⟨rfl, N14⟩
      · skip
        obtain ⟨_, _, ⟨T16, L16, k16, n16⟩, -, X16, ⟨Lc16, hQ16, l16, y16, z16⟩, st16⟩ := Jvm.LawKit.callS X0 hx (y := (⟨"com/example/fat_envelope/fatenvelope/Base64Alphabet", "value", "(I)I"⟩ : MethodName)) hown (mvT hZ (hw _ (List.mem_of_getElem? (i := 1) rfl))) (mvT hZ (hw _ (List.mem_of_getElem? (i := 2) rfl))) (mvT hZ (hw _ (List.mem_of_getElem? (i := 3) rfl))) (mvT hZ (hw _ (List.mem_of_getElem? (i := 4) rfl))) (by decide) (backOf (W := 0) (rm1 l Z a0 hw [] (p0_0 &&& (65535 : Int32)) u_VALUES cl_u_VALUES h0 n0 Z0 S_VALUES Tb) hZ (hw _ (List.mem_of_getElem? (i := 4) rfl)) (hw _ (List.mem_of_getElem? (i := 3) rfl)) (by decide) (by decide)) (g := (mkF m 46 #[.val (.int p0_0), .val (.int p0_1), .val (.int (p0_1 &&& (3 : Int32))), .val (.int (p0_0 &&& (65535 : Int32)))] [(.int (p0_0 &&& (65535 : Int32)))])) rfl (by rw [hml]; rfl) (argsL := [(.int (p0_0 &&& (65535 : Int32)))]) (rest := []) (lenOf pd_0 rfl) rfl (by show 2 * 0 + _ ≤ _; exact Nat.le_of_eq rfl) (hb hby at_46) (fun _ _ => ⟨rfl, e0, (by decide : 0 + 0 ≤ _), (by decide : 0 + 0 ≤ _)⟩)
        dsimp only [Pt.U, Pt.locs, Pt.cells, Pt.slots] at X16 l16 y16 z16 st16 hQ16
        subst l16 y16 z16
        obtain ⟨rfl, N16q, eh16⟩ := hQ16
        have N16 := Fr.app N0 N16q
        obtain ⟨_, _, ⟨T17, L17, k17, n17⟩, -, X17, ⟨Lc17, hQ17, l17, y17, z17⟩, st17⟩ := Jvm.LawKit.callS X16 hx (y := (⟨"com/example/fat_envelope/fatenvelope/Base64AlphabetValuePinLaw", "reference", "(I)I"⟩ : MethodName)) hown (mvT hZ (hw _ (List.mem_of_getElem? (i := 7) rfl))) (mvT hZ (hw _ (List.mem_of_getElem? (i := 8) rfl))) (mvT hZ (hw _ (List.mem_of_getElem? (i := 9) rfl))) (mvT hZ (hw _ (List.mem_of_getElem? (i := 10) rfl))) (by decide) (backOf (W := 1) (rm2 l Z a0 hw [] (p0_0 &&& (65535 : Int32)) h0 n0 Z0 ) hZ (hw _ (List.mem_of_getElem? (i := 10) rfl)) (hw _ (List.mem_of_getElem? (i := 9) rfl)) (by decide) (by decide)) (g := (mkF m 50 #[.val (.int p0_0), .val (.int p0_1), .val (.int (p0_1 &&& (3 : Int32))), .val (.int (p0_0 &&& (65535 : Int32)))] [(.int (p0_0 &&& (65535 : Int32))), (.int (own_val (p0_0 &&& (65535 : Int32)) cl_u_VALUES))])) rfl (by rw [hml]; rfl) (argsL := [(.int (p0_0 &&& (65535 : Int32)))]) (rest := [(.int (own_val (p0_0 &&& (65535 : Int32)) cl_u_VALUES))]) (lenOf pd_0 rfl) rfl (by show 2 * 0 + _ ≤ _; exact Nat.le_of_eq rfl) (hb hby at_50) (fun _ _ => ⟨rfl, eh16, (by decide : 0 + 0 ≤ _), (by decide : 0 + 0 ≤ _)⟩)
        dsimp only [Pt.U, Pt.locs, Pt.cells, Pt.slots] at X17 l17 y17 z17 st17 hQ17
        subst l17 y17 z17
        obtain ⟨rfl, N17q, eh17⟩ := hQ17
        have N17 := Fr.app N16 N17q
        have k18 : ∀ t, Steps p.tables e below (T17.setTop (mkF m 61 #[.val (.int p0_0), .val (.int p0_1), .val (.int (p0_1 &&& (3 : Int32))), .val (.int (p0_0 &&& (65535 : Int32)))] [(.int (1 : Int32))])) t → Steps p.tables e below (s₁.setTop (entryFrame m #[(.int p0_0), (.int p0_1)] maxLocals)) t := by
          intro t k
          refine k11 t ?_
          show Steps p.tables e below (s₁.setTop (mkF m 29 #[.val (.int p0_0), .val (.int p0_1), .val (.int (p0_1 &&& (3 : Int32))), .unset] [(.int (2 : Int32)), (.int (p0_1 &&& (3 : Int32)))])) _
          refine XS.icmpYes X0.here hx rfl (pc0 := 29) (pc' := 40) rfl (hb hby at_29) rfl (feq hc29_12).2 (by decide) (by decide) ?_
          show Steps p.tables e below (s₁.setTop (mkF m 40 #[.val (.int p0_0), .val (.int p0_1), .val (.int (p0_1 &&& (3 : Int32))), .unset] [])) _
          refine XS.iloadN X0.here hx rfl (hb hby at_40) rfl ?_
          show Steps p.tables e below (s₁.setTop (mkF m 41 #[.val (.int p0_0), .val (.int p0_1), .val (.int (p0_1 &&& (3 : Int32))), .unset] [(.int p0_0)])) _
          refine X0.ldcInt hx hown (mvT hZ (hw _ (List.mem_of_getElem? (i := 0) rfl))) (g := (mkF m 41 #[.val (.int p0_0), .val (.int p0_1), .val (.int (p0_1 &&& (3 : Int32))), .unset] [(.int p0_0)])) rfl (hb hby at_41) _ ?_
          show Steps p.tables e below (s₁.setTop (mkF m 43 #[.val (.int p0_0), .val (.int p0_1), .val (.int (p0_1 &&& (3 : Int32))), .unset] [(.int (65535 : Int32)), (.int p0_0)])) _
          refine XS.iand X0.here hx rfl (hb hby at_43) rfl ?_
          show Steps p.tables e below (s₁.setTop (mkF m 44 #[.val (.int p0_0), .val (.int p0_1), .val (.int (p0_1 &&& (3 : Int32))), .unset] [(.int (p0_0 &&& (65535 : Int32)))])) _
          refine XS.istoreN X0.here hx rfl (hb hby at_44) rfl (l' := #[.val (.int p0_0), .val (.int p0_1), .val (.int (p0_1 &&& (3 : Int32))), .val (.int (p0_0 &&& (65535 : Int32)))]) rfl ?_
          show Steps p.tables e below (s₁.setTop (mkF m 45 #[.val (.int p0_0), .val (.int p0_1), .val (.int (p0_1 &&& (3 : Int32))), .val (.int (p0_0 &&& (65535 : Int32)))] [])) _
          refine XS.iloadN X0.here hx rfl (hb hby at_45) rfl ?_
          show Steps p.tables e below (s₁.setTop (mkF m 46 #[.val (.int p0_0), .val (.int p0_1), .val (.int (p0_1 &&& (3 : Int32))), .val (.int (p0_0 &&& (65535 : Int32)))] [(.int (p0_0 &&& (65535 : Int32)))])) _
          refine st16 _ ?_
          show Steps p.tables e below (T16.setTop (mkF m 49 #[.val (.int p0_0), .val (.int p0_1), .val (.int (p0_1 &&& (3 : Int32))), .val (.int (p0_0 &&& (65535 : Int32)))] [(.int (own_val (p0_0 &&& (65535 : Int32)) cl_u_VALUES))])) _
          refine XS.iloadN X16.here hx rfl (hb hby at_49) rfl ?_
          show Steps p.tables e below (T16.setTop (mkF m 50 #[.val (.int p0_0), .val (.int p0_1), .val (.int (p0_1 &&& (3 : Int32))), .val (.int (p0_0 &&& (65535 : Int32)))] [(.int (p0_0 &&& (65535 : Int32))), (.int (own_val (p0_0 &&& (65535 : Int32)) cl_u_VALUES))])) _
          refine st17 _ ?_
          show Steps p.tables e below (T17.setTop (mkF m 53 #[.val (.int p0_0), .val (.int p0_1), .val (.int (p0_1 &&& (3 : Int32))), .val (.int (p0_0 &&& (65535 : Int32)))] [(.int (own_ref (p0_0 &&& (65535 : Int32)))), (.int (own_val (p0_0 &&& (65535 : Int32)) cl_u_VALUES))])) _
          refine XS.icmpNo X17.here hx rfl (hb hby at_53) rfl (teq (own_law _ htab _)).2 ?_
          show Steps p.tables e below (T17.setTop (mkF m 56 #[.val (.int p0_0), .val (.int p0_1), .val (.int (p0_1 &&& (3 : Int32))), .val (.int (p0_0 &&& (65535 : Int32)))] [])) _
          refine XS.iconst X17.here hx rfl (hb hby at_56) ?_
          show Steps p.tables e below (T17.setTop (mkF m 57 #[.val (.int p0_0), .val (.int p0_1), .val (.int (p0_1 &&& (3 : Int32))), .val (.int (p0_0 &&& (65535 : Int32)))] [(.int (1 : Int32))])) _
          refine XS.goto X17.here hx rfl (pc0 := 57) (pc' := 61) rfl (hb hby at_57) (by decide) (by decide) ?_
          exact k
        obtain ⟨fs, hr, hrun, hended, hW, hsame⟩ := X17.leave (v := some (.int (1 : Int32))) (fun h => by rw [Bd.returns] at h; cases h)
        refine ⟨_, _, k18 _ ?_, hrun, hended, _, _, rfl, ?_, ⟨_, rfl⟩, hW, hsame.mono (by decide) (by decide)⟩
        · exact retN X17 hx (t := .boolean) Bd.returns (by simp) (hb hby at_61) hr
        · show Q0 Z p0_0 p0_1 u_VALUES cl_u_VALUES h0 n0 _ T17.heap _
          rw [eh17]
          exact ⟨rfl, N17⟩
set_option maxRecDepth 65536 in
set_option maxHeartbeats 40000000 in
theorem comes_1 {Post : Tables → Env → Array Value → State → Outcome → State → Prop} (hpost : ∀ tb e args s v u, (limb_1_1.after args s (.returned v) u = true ∧ limb_1_2.after args s (.returned v) u = true ∧ True) → FrameEnd s (.returned v) u (Jvm.fieldLocs frame_1_writes args s ++ Jvm.arrayLocs frame_1_arrays args s ++ Jvm.staticLocs frame_1_statics s) 0 0 → Post tb e args s (.returned v) u) :
    ArmFor flags0 classFile x code maxLocals ret World_1 tables_1 room_1 Calls_1 rest_1 Pre_1 Post := by
  intro l hfl _ _ p e ha hc hk s m args below hf hA hF happ hP
  obtain ⟨hcalls, hrest, hpre⟩ := hP
  obtain ⟨-, -, -, hnamed, -, -, -, hat⟩ := (Spec.applies_iff hf).mp happ
  obtain ⟨hg, hn⟩ := and_e (Cond.before_iff.mp (show (Jvm.Cond.and given_1 narrow_1).before args s = true from hpre))
  obtain ⟨gv1, gv2⟩ := and_e hg
  obtain ⟨gv3, gv4⟩ := and_e gv2
  obtain ⟨w0, w1, rfl⟩ : ∃ w0 w1 : Value, args = #[w0, w1] := by
    have hs : args.size = 2 := by simpa [Cond.value, given_1] using gv1
    obtain ⟨L⟩ := args
    match L, hs with
    | [w0, w1], _ => exact ⟨w0, w1, rfl⟩
  have hw := fun d (hd : d ∈ tables_1) => atoms_spec (ws := Jvm.Cond.code x code maxLocals ret :: tables_1) hat d (List.mem_cons_of_mem _ hd)
  have hfit : Fit s := fun {y c} hc i hi => by
    obtain ⟨ha, rfl⟩ := Array.getElem?_eq_some_iff.mp hc
    have q := List.all_eq_true.mp ((Array.all_eq_true_iff_forall_mem.mp hF) _ (Array.getElem_mem ha)) i (List.mem_range.mpr hi)
    simpa [Array.getElem?_eq_getElem hi] using q
  obtain ⟨i0, ei0⟩ := is_v gv3
  obtain rfl : w0 = (.int i0) := Option.some.inj ei0
  obtain ⟨i1, ei1⟩ := is_v gv4
  obtain rfl : w1 = (.int i1) := Option.some.inj ei1
  obtain ⟨nv1, nv2⟩ := and_e hn
  obtain ⟨nv3, nv4⟩ := and_e nv2
  obtain ⟨nv5, nv6⟩ := and_e nv4
  obtain ⟨nv7, nv8⟩ := and_e nv6
  obtain ⟨nv9, nv10⟩ := and_e nv8
  obtain ⟨nv11, nv12⟩ := and_e nv10
  obtain ⟨nv13, nv14⟩ := and_e nv12
  obtain ⟨nv15, nv16⟩ := and_e nv14
  obtain ⟨nv17, nv18⟩ := and_e nv16
  obtain ⟨nv19, nv20⟩ := and_e nv18
  obtain ⟨nv21, nv22⟩ := and_e nv20
  obtain ⟨nv23, nv24⟩ := and_e nv22
  obtain ⟨nv25, nv26⟩ := and_e nv24
  obtain ⟨u_VALUES, ev_u_VALUES⟩ := arr_v nv1
  obtain ⟨cl_u_VALUES, Ar_u_VALUES⟩ := Arr.start ev_u_VALUES nv1
  have S_VALUES : Sta s s.heap "com/example/fat_envelope/fatenvelope/Base64Alphabet" "VALUES" "[B" (.ref u_VALUES) := Sta.start ev_u_VALUES (Or.inr ⟨(hw _ (List.mem_of_getElem? (i := 3) rfl)), (hw _ (List.mem_of_getElem? (i := 6) rfl))⟩)
  have e_1 := own_evI nv3
  have e_2 := own_evI nv7
  have e_3 := own_evI nv9
  have e_4 := own_evI nv11
  have e_5 := own_evI nv13
  have e_6 := own_evI nv15
  have hlen := own_len ev_u_VALUES (Ar_u_VALUES.fin (Vm.Alike.refl _)) (own_evI nv3)
  have Tb : Tab s s.heap u_VALUES cl_u_VALUES .byte (128 : Int32) := Tab.start hfit Ar_u_VALUES (by simp) hlen.1 hlen.2 (by decide)
  have htab : ∀ j : Int32, ¬ j < 0 → j < 128 → atv cl_u_VALUES j = own_ref j := by
    intro j hj0 hj1
    have hin : ¬ (j < 0 ∨ cl_u_VALUES.slots.size ≤ j.toNatClampNeg) := inb_of Tb.2.1 ⟨hj0, hj1⟩
    have hlt : j.toNatClampNeg < cl_u_VALUES.slots.size := Nat.lt_of_not_le fun x => hin (Or.inr x)
    have hel := (elem_f (t := Jvm.Term.static "com/example/fat_envelope/fatenvelope/Base64Alphabet" "VALUES" "[B") (args := #[.int i0, .int i1]) (first := s) (o := none) (idx := [j.toNatClampNeg]) (s := s) ev_u_VALUES (idx_at hj0) (Ar_u_VALUES.fin (Vm.Alike.refl _)) hj0).trans (Tb.2.2.2 j hin)
    exact own_plain j _ hj0 hj1 (or_e2 (Cond.le_ints (Term.int_eval _) (idx_at hj0)) (Cond.eq_ints hel (Term.int_eval _)) (Cond.all_elim (idx := []) (ev_u_VALUES) (Ar_u_VALUES.fin (Vm.Alike.refl _)) nv5 j.toNatClampNeg hlt)) (one_at (atv_of (elem_in (own_evI nv7) ev_u_VALUES (Term.int_eval _) Ar_u_VALUES.1).2) j) (one_at (atv_of (elem_in (own_evI nv9) ev_u_VALUES (Term.int_eval _) Ar_u_VALUES.1).2) j) (one_at (atv_of (elem_in (own_evI nv11) ev_u_VALUES (Term.int_eval _) Ar_u_VALUES.1).2) j) (one_at (atv_of (elem_in (own_evI nv13) ev_u_VALUES (Term.int_eval _) Ar_u_VALUES.1).2) j) (one_at (atv_of (elem_in (own_evI nv15) ev_u_VALUES (Term.int_eval _) Ar_u_VALUES.1).2) j) (or3 (Cond.all_elim (idx := []) (ev_u_VALUES) (Ar_u_VALUES.fin (Vm.Alike.refl _)) nv17 j.toNatClampNeg hlt) (Cond.lt_ints (idx_at hj0) (Term.int_eval _)) (Cond.le_ints (Term.int_eval _) (idx_at hj0)) (eq_L (own_i2lf hel) (own_laddf (own_i2lf (idx_at hj0)) (long_at _)))) (or3 (Cond.all_elim (idx := []) (ev_u_VALUES) (Ar_u_VALUES.fin (Vm.Alike.refl _)) nv19 j.toNatClampNeg hlt) (Cond.lt_ints (idx_at hj0) (Term.int_eval _)) (Cond.le_ints (Term.int_eval _) (idx_at hj0)) (Cond.eq_ints hel (Term.int_eval _))) (or3 (Cond.all_elim (idx := []) (ev_u_VALUES) (Ar_u_VALUES.fin (Vm.Alike.refl _)) nv21 j.toNatClampNeg hlt) (Cond.lt_ints (idx_at hj0) (Term.int_eval _)) (Cond.le_ints (Term.int_eval _) (idx_at hj0)) (Cond.eq_ints hel (own_subf (idx_at hj0) (Term.int_eval _)))) (or3 (Cond.all_elim (idx := []) (ev_u_VALUES) (Ar_u_VALUES.fin (Vm.Alike.refl _)) nv23 j.toNatClampNeg hlt) (Cond.lt_ints (idx_at hj0) (Term.int_eval _)) (Cond.le_ints (Term.int_eval _) (idx_at hj0)) (Cond.eq_ints hel (Term.int_eval _))) (or3 (Cond.all_elim (idx := []) (ev_u_VALUES) (Ar_u_VALUES.fin (Vm.Alike.refl _)) nv25 j.toNatClampNeg hlt) (Cond.lt_ints (idx_at hj0) (Term.int_eval _)) (Cond.le_ints (Term.int_eval _) (idx_at hj0)) (Cond.eq_ints hel (own_subf (idx_at hj0) (Term.int_eval _)))) (or_e2 (Cond.lt_ints (idx_at hj0) (Term.int_eval _)) (Cond.eq_ints hel (Term.int_eval _)) (Cond.all_elim (idx := []) (ev_u_VALUES) (Ar_u_VALUES.fin (Vm.Alike.refl _)) nv26 j.toNatClampNeg hlt))
  obtain ⟨n, o, h1, h2, h3, _, L, rfl, ⟨rfl, N⟩, hq⟩ := rm0 l s _ hw tables_1 i0 i1 u_VALUES cl_u_VALUES s.heap s.heap.size (Nat.le_refl _) S_VALUES Tb htab p e ha hc hk s m _ below hf ((Spec.applies_iff_loose hf).mp happ).1 ⟨rfl, State.Warmed39.refl s, rfl⟩ trivial
  refine ⟨n, _, h1, h2, h3, hpost _ _ _ _ _ _ ⟨Cond.after_iff.mpr rfl, Cond.after_iff.mpr (eq_i res_at (Term.int_eval (1)) rfl), trivial⟩ ⟨hq.1, hq.2.1, (hq.2.2.sift fun y hy => Or.inr (N y hy)).mono (by decide) (by decide)⟩⟩
theorem main_1_1 : Claimed_1_1 := comes_1 fun _ _ _ _ _ _ h hF => ⟨h.1, hF⟩
theorem main_1_2 : Claimed_1_2 := comes_1 fun _ _ _ _ _ _ h hF => ⟨h.2.1, hF⟩
end Jvm.Pilot.@@N@@
namespace Jvm.Pilot.@@N@@
open Jvm Jvm.ClassFile Sem Op Lib Jvm.Free Jvm.Stand Jvm.Pilot.@@N@@.Jvm.D
/-! MADE BY PROGRAM (witnessworld.py) out of the Statement's table words and the real class files: 9 classes; the members and pool entries that the words name. The judged class is class 1, her method 1. -/
namespace start1
open Jvm.ClassFile
def u (s : String) : CpInfo := .utf8 (stringToUtf16 s)
/-- a pool by its gaps: so many unusable entries, then the entry; so many at the end -/
def gap : Nat → List CpInfo → List CpInfo
  | 0, r => r
  | n + 1, r => .unusable :: gap n r
def poolList (es : List (Nat × CpInfo)) (last : Nat) : List CpInfo := es.foldr (fun e r => gap e.1 (e.2 :: r)) (gap last [])
def pool (es : List (Nat × CpInfo)) (last : Nat) : Array CpInfo := ⟨poolList es last⟩
def fileOf (pool : Array CpInfo) (this : Nat) (attrs : Array Attribute := #[]) (ms : Array MethodInfo := #[]) (fl : Nat := 33) (sup : Nat := 0) (ifs : Array Nat := #[]) (fds : Array FieldInfo := #[]) : ClassFile where
  minorVersion := 0
  majorVersion := 65
  constantPool := pool
  accessFlags := fl
  thisClass := this
  superClass := sup
  interfaces := ifs
  fields := fds
  methods := ms
  attributes := attrs
def plain (name : String) (sup : Option ClassId) : Class where
  name := name
  kind := .ordinary
  loader := none
  accessFlags := 33
  super := sup
  interfaces := #[]
  cf := none
  fields := #[]
  methods := #[]
  instanceTypes := #[]
  staticTypes := #[]
  resolved := #[]
  callSites := []
  init := .initialized
  statics := none
  mirror := none

def pool0 : Array CpInfo := pool [(5, u "<init>"), (0, u "()V"), (1, .class_ 10), (1, u "java/lang/Object")] 113

def k0m0 : Method := { name := "<init>", desc := "()V", sig := { parameters := [], returnType := none }, accessFlags := 1, code := none }
/-- java/lang/Object -/
def k0 : Class := { plain "java/lang/Object" none with
  accessFlags := 33
  interfaces := #[]
  cf := some (fileOf pool0 8 #[] #[{ accessFlags := 1, nameIndex := 5, descriptorIndex := 6, attributes := #[] }] 33 0 #[] #[])
  fields := #[]
  methods := #[k0m0]
  instanceTypes := #[]
  staticTypes := #[]
  resolved := Array.replicate 124 none
  statics := none }

def pool1 : Array CpInfo := pool [(2, .class_ 4), (1, u "java/lang/Object"), (0, u "<init>"), (0, u "()V"), (0, .integer 65535), (0, .methodref 9 10), (0, .class_ 11), (0, .nameAndType 12 13), (0, u "com/example/fat_envelope/fatenvelope/Base64Alphabet"), (0, u "value"), (0, u "(I)I"), (0, .methodref 15 16), (0, .class_ 17), (0, .nameAndType 18 13), (0, u "com/example/fat_envelope/fatenvelope/Base64AlphabetValuePinLaw"), (0, u "reference"), (2, u "law"), (0, u "(II)Z")] 3

def k1m0 : Method := { name := "<init>", desc := "()V", sig := { parameters := [], returnType := none }, accessFlags := 1, code := none }
def k1c1 : Code := { maxStack := 2, maxLocals := 4, code := code, exceptionTable := #[], attributes := #[] }
def k1m1 : Method := { name := "law", desc := "(II)Z", sig := { parameters := [.int, .int], returnType := some .boolean }, accessFlags := 9, code := some k1c1 }
def k1c2 : Code := { maxStack := 2, maxLocals := 1, code := method_3_code, exceptionTable := #[], attributes := #[] }
def k1m2 : Method := { name := "reference", desc := "(I)I", sig := { parameters := [.int], returnType := some .int }, accessFlags := 10, code := some k1c2 }
/-- com/example/fat_envelope/fatenvelope/Base64AlphabetValuePinLaw -/
def k1 : Class := { plain "com/example/fat_envelope/fatenvelope/Base64AlphabetValuePinLaw" (some 0) with
  accessFlags := 49
  interfaces := #[]
  cf := some (fileOf pool1 15 #[] #[{ accessFlags := 1, nameIndex := 5, descriptorIndex := 6, attributes := #[] }, { accessFlags := 9, nameIndex := 21, descriptorIndex := 22, attributes := #[] }, { accessFlags := 10, nameIndex := 18, descriptorIndex := 13, attributes := #[] }] 49 2 #[] #[])
  fields := #[]
  methods := #[k1m0, k1m1, k1m2]
  instanceTypes := #[]
  staticTypes := #[]
  resolved := Array.replicate 26 none
  statics := none }

def pool2 : Array CpInfo := pool [(2, .class_ 4), (1, u "java/lang/Object"), (0, u "<init>"), (0, u "()V"), (0, .fieldref 8 9), (0, .class_ 10), (0, .nameAndType 11 12), (0, u "com/example/fat_envelope/fatenvelope/Base64Alphabet"), (0, u "VALUES"), (0, u "[B"), (2, u "value"), (0, u "(I)I"), (22, u "NONE"), (0, u "I"), (2, u "CHARACTERS"), (0, u "Ljava/lang/String;")] 10

def k2m0 : Method := { name := "<init>", desc := "()V", sig := { parameters := [], returnType := none }, accessFlags := 2, code := none }
def k2c1 : Code := { maxStack := 2, maxLocals := 1, code := prog_7_method_2_code, exceptionTable := #[], attributes := #[] }
def k2m1 : Method := { name := "value", desc := "(I)I", sig := { parameters := [.int], returnType := some .int }, accessFlags := 8, code := some k2c1 }
/-- com/example/fat_envelope/fatenvelope/Base64Alphabet -/
def k2 : Class := { plain "com/example/fat_envelope/fatenvelope/Base64Alphabet" (some 0) with
  accessFlags := 48
  interfaces := #[]
  cf := some (fileOf pool2 8 #[] #[{ accessFlags := 2, nameIndex := 5, descriptorIndex := 6, attributes := #[] }, { accessFlags := 8, nameIndex := 15, descriptorIndex := 16, attributes := #[] }] 48 2 #[] #[{ accessFlags := 24, nameIndex := 39, descriptorIndex := 40, attributes := #[] }, { accessFlags := 26, nameIndex := 43, descriptorIndex := 44, attributes := #[] }, { accessFlags := 26, nameIndex := 11, descriptorIndex := 12, attributes := #[] }])
  fields := #[{ name := "NONE", type := .int, accessFlags := 24, slot := 0, constantValue := 0 }, { name := "CHARACTERS", type := (.object "java/lang/String"), accessFlags := 26, slot := 1, constantValue := 0 }, { name := "VALUES", type := (.array .byte), accessFlags := 26, slot := 2, constantValue := 0 }]
  methods := #[k2m0, k2m1]
  instanceTypes := #[]
  staticTypes := #[.int, (.object "java/lang/String"), (.array .byte)]
  resolved := Array.replicate 55 none
  statics := some 0 }

def pool3 : Array CpInfo := pool [(1, u "java/lang/Cloneable"), (0, .class_ 1), (0, u "java/lang/Object"), (0, .class_ 3)] 3

/-- java/lang/Cloneable -/
def k3 : Class := { plain "java/lang/Cloneable" (some 0) with
  accessFlags := 1537
  interfaces := #[]
  cf := some (fileOf pool3 2 #[] #[] 1537 4 #[] #[])
  fields := #[]
  methods := #[]
  instanceTypes := #[]
  staticTypes := #[]
  resolved := Array.replicate 8 none
  statics := none }

def pool4 : Array CpInfo := pool [(1, u "java/io/Serializable"), (0, .class_ 1), (0, u "java/lang/Object"), (0, .class_ 3)] 3

/-- java/io/Serializable -/
def k4 : Class := { plain "java/io/Serializable" (some 0) with
  accessFlags := 1537
  interfaces := #[]
  cf := some (fileOf pool4 2 #[] #[] 1537 4 #[] #[])
  fields := #[]
  methods := #[]
  instanceTypes := #[]
  staticTypes := #[]
  resolved := Array.replicate 8 none
  statics := none }

/-- the primitive byte -/
def k5 : Class := { plain "byte" none with kind := .primitive 'B', accessFlags := 0x411 }
/-- [B -/
def k6 : Class := { plain "[B" (some 0) with kind := .array 5 .byte, interfaces := #[3, 4], accessFlags := 1041 }

/-- the primitive int -/
def k7 : Class := { plain "int" none with kind := .primitive 'I', accessFlags := 0x411 }
/-- [I -/
def k8 : Class := { plain "[I" (some 0) with kind := .array 7 .int, interfaces := #[3, 4], accessFlags := 1041 }

def heap : Heap := #[{ cls := 2, slots := #[.int 0, .null, .ref 1], vm := .statics 2 },
  { cls := 6, slots := #[.int (-1), .int (-1), .int (-1), .int (-1), .int (-1), .int (-1), .int (-1), .int (-1), .int (-1), .int (-1), .int (-1), .int (-1), .int (-1), .int (-1), .int (-1), .int (-1), .int (-1), .int (-1), .int (-1), .int (-1), .int (-1), .int (-1), .int (-1), .int (-1), .int (-1), .int (-1), .int (-1), .int (-1), .int (-1), .int (-1), .int (-1), .int (-1), .int (-1), .int (-1), .int (-1), .int (-1), .int (-1), .int (-1), .int (-1), .int (-1), .int (-1), .int (-1), .int (-1), .int 62, .int (-1), .int (-1), .int (-1), .int 63, .int 52, .int 53, .int 54, .int 55, .int 56, .int 57, .int 58, .int 59, .int 60, .int 61, .int (-1), .int (-1), .int (-1), .int (-1), .int (-1), .int (-1), .int (-1), .int 0, .int 1, .int 2, .int 3, .int 4, .int 5, .int 6, .int 7, .int 8, .int 9, .int 10, .int 11, .int 12, .int 13, .int 14, .int 15, .int 16, .int 17, .int 18, .int 19, .int 20, .int 21, .int 22, .int 23, .int 24, .int 25, .int (-1), .int (-1), .int (-1), .int (-1), .int (-1), .int (-1), .int 26, .int 27, .int 28, .int 29, .int 30, .int 31, .int 32, .int 33, .int 34, .int 35, .int 36, .int 37, .int 38, .int 39, .int 40, .int 41, .int 42, .int 43, .int 44, .int 45, .int 46, .int 47, .int 48, .int 49, .int 50, .int 51, .int (-1), .int (-1), .int (-1), .int (-1), .int (-1)], vm := .none }]
def classes : Array Class := #[k0, k1, k2, k3, k4, k5, k6, k7, k8]
def interned : List (Array UInt16 × Addr) := []
def slotsUsed : Nat := 131
def theMethod : MethodId := ⟨1, 1⟩
def args0 : Array Value := #[.int 5, .int 3]
def aboutOver (below : List Frame) : State where
  vm := { classes := classes, interned := interned.toArray }
  heap := heap
  slotsUsed := slotsUsed
  threads := #[{ frames := .invoking theMethod args0 :: below }]
def below0 : List Frame := [.native { method := ⟨0, 0⟩, args := #[] }]
def about1 : State := aboutOver below0
def p0 : Program := .bare "" "" ""
def e0 : Env := launch0.env 0 0 0
theorem w_frames : about1.frames = Frame.invoking theMethod args0 :: below0 := rfl
set_option maxRecDepth 65536 in
theorem w_args : argsFit about1.vm theMethod args0 = true := by decide +kernel
set_option maxRecDepth 65536 in
theorem w_heap : heapFits about1 = true := by decide +kernel
set_option maxRecDepth 65536 in
theorem w_runnable : about1.curStatus? = some .runnable := by decide +kernel
set_option maxRecDepth 65536 in
theorem w_alone : about1.alone = true := by decide +kernel
set_option maxRecDepth 65536 in
theorem w_named : about1.methodNamed? x = some theMethod := by decide +kernel
set_option maxRecDepth 65536 in
theorem w_hears : about1.hears theMethod below0 = true := by decide +kernel
set_option maxRecDepth 65536 in
theorem w_ripe : about1.ripe theMethod args0 below0 = true := by decide +kernel
theorem w_running : about1.status = .running := rfl
set_option maxRecDepth 65536 in
theorem w_room : about1.hasRoom e0.platform room_1 = true :=
  launch0.hasRoom_least _ room_1 (by decide +kernel) (by decide +kernel) (by decide +kernel) (by decide +kernel) (by decide +kernel) (by decide +kernel)
theorem allAtoms_all (ts : List Jvm.Cond) (a : Array Jvm.Value) (st : Jvm.State) : (allAtoms ts).before a st = ts.all (fun c => c.before a st) := by
  induction ts with
  | nil => rfl
  | cons c t ih =>
    show (Jvm.Cond.and c (allAtoms t)).before a st = _
    rw [Jvm.Cond.before_and, ih, List.all_cons]
def words1 : List Jvm.Cond := Jvm.Cond.code x code maxLocals ret :: tables_1
/-- a 'code' word, met by the world's own term for the bytes: nothing is compared byte by byte -/
theorem code_word {y : MethodName} {bytes : ByteArray} {mx : Nat} {rt : Option FieldType} {a : Array Value} {s : State} {m : MethodId} {meth : Method} {c : Code} (h1 : s.methodNamed? y = some m) (h2 : s.vm.method? m = some meth) (h3 : meth.code = some c) (h4 : c.code = bytes)
    (h5 : (c.maxLocals == mx && c.exceptionTable.isEmpty && decide (c.maxStack ≤ mostOperands) && decide (meth.sig.returnType = rt) && !meth.locks && decide (parseMethodDescriptor y.desc = some meth.sig)) = true) : (Jvm.Cond.code y bytes mx rt).before a s = true := by
  simp only [Bool.and_eq_true, beq_iff_eq, Bool.not_eq_true', decide_eq_true_eq] at h5
  obtain ⟨⟨⟨⟨⟨g1, g2⟩, g3⟩, g4⟩, g5⟩, g6⟩ := h5
  simp [Cond.before, Cond.holds, Cond.value, h1, h2, h3, h4, g1, g2, g3, g4, g5, g6]
def isCode : Jvm.Cond → Bool
  | .code _ _ _ _ => true
  | _ => false
theorem all_split {L : List Jvm.Cond} {P : Jvm.Cond → Bool} (h1 : L.all (fun c => isCode c || P c) = true) (h2 : ∀ c ∈ L.filter isCode, P c = true) : L.all P = true := by
  refine List.all_eq_true.mpr fun c hc => ?_
  have h := List.all_eq_true.mp h1 c hc
  rcases Bool.eq_false_or_eq_true (isCode c) with hi | hi
  · exact h2 c (List.mem_filter.mpr ⟨hc, hi⟩)
  · simpa [hi] using h
set_option maxRecDepth 65536 in
theorem w_c0 : (Jvm.Cond.code x code maxLocals ret).before args0 about1 = true := code_word (m := ⟨1, 1⟩) (meth := k1m1) (c := k1c1) (by decide +kernel) rfl rfl rfl (by decide +kernel)
set_option maxRecDepth 65536 in
theorem w_c1 : (Jvm.Cond.code ({ cls := "com/example/fat_envelope/fatenvelope/Base64Alphabet", name := "value", desc := "(I)I" } : Jvm.MethodName) prog_7_method_2_code (1 : Nat) (Option.some Jvm.ClassFile.FieldType.int)).before args0 about1 = true := code_word (m := ⟨2, 1⟩) (meth := k2m1) (c := k2c1) (by decide +kernel) rfl rfl rfl (by decide +kernel)
set_option maxRecDepth 65536 in
theorem w_c2 : (Jvm.Cond.code ({ cls := "com/example/fat_envelope/fatenvelope/Base64AlphabetValuePinLaw", name := "reference", desc := "(I)I" } : Jvm.MethodName) method_3_code (1 : Nat) (Option.some Jvm.ClassFile.FieldType.int)).before args0 about1 = true := code_word (m := ⟨1, 2⟩) (meth := k1m2) (c := k1c2) (by decide +kernel) rfl rfl rfl (by decide +kernel)
def codes1 : List Jvm.Cond := [Jvm.Cond.code x code maxLocals ret, Jvm.Cond.code ({ cls := "com/example/fat_envelope/fatenvelope/Base64Alphabet", name := "value", desc := "(I)I" } : Jvm.MethodName) prog_7_method_2_code (1 : Nat) (Option.some Jvm.ClassFile.FieldType.int), Jvm.Cond.code ({ cls := "com/example/fat_envelope/fatenvelope/Base64AlphabetValuePinLaw", name := "reference", desc := "(I)I" } : Jvm.MethodName) method_3_code (1 : Nat) (Option.some Jvm.ClassFile.FieldType.int)]
set_option maxRecDepth 65536 in
theorem codes_eq : words1.filter isCode = codes1 := rfl
theorem w_codes : ∀ c ∈ words1.filter isCode, c.before args0 about1 = true := by
  rw [codes_eq]
  intro c hc
  simp only [codes1, List.mem_cons, List.not_mem_nil, or_false] at hc
  rcases hc with rfl | rfl | rfl
  · exact w_c0
  · exact w_c1
  · exact w_c2
set_option maxRecDepth 65536 in
theorem w_t1 : words1.all (fun c => isCode c || c.before args0 about1) = true := by decide +kernel
theorem w_tables : (allAtoms (Jvm.Cond.code x code maxLocals ret :: tables_1)).before args0 about1 = true := by
  rw [allAtoms_all]
  show words1.all (fun c => c.before args0 about1) = true
  refine all_split ?_ w_codes
  rw [w_t1]
set_option maxRecDepth 65536 in
theorem w_case : (Jvm.Cond.and given_1 narrow_1).before args0 about1 = true := by decide +kernel
theorem w_applies : (headSpec (Jvm.Cond.code x code maxLocals ret :: tables_1) room_1).applies x e0.platform about1 = true :=
  (Spec.applies_iff w_frames).mpr ⟨w_running, w_runnable, w_alone, w_named, w_hears, w_ripe, w_room, w_tables⟩
theorem atStart : AtStart classFile x code maxLocals ret World_1 tables_1 room_1 Calls_1 rest_1 Pre_1 launch0 p0 e0 about1 theMethod args0 below0 :=
  ⟨lists_1, trivial, launch0.admits_env _ _ _, launch0.least_env, fairChoices_fair.cas, fairChoices_fair.clock, w_frames, w_args, w_heap, w_applies, trivial, trivial, w_case⟩
end start1
theorem witness_1 : WitnessClaimed_1 := ⟨start1.p0, start1.e0, start1.about1, start1.theMethod, start1.args0, start1.below0, start1.atStart⟩
end Jvm.Pilot.@@N@@
