import JvmDerived
import JvmDerived.Pilot.@@N@@Statement
import JvmDerived.Pilot.@@N@@Code
set_option linter.unusedVariables false
set_option linter.unusedSimpArgs false
namespace Jvm.RoadKit
open Sem ClassFile Op Lib Jvm.Stand Jvm.Free Jvm.LawKit
section New
variable {p : Program} {l : Launch} {e : Env} {R : Room} {s : State} {m : MethodId} {args : Array Value} {below : List Frame} {meth : Method} {c : Code} {T : State} {locs : List Loc} {cells slots : Nat}
theorem retI (X : Stand p l e R s m args below meth c T locs cells slots) (hx : p.tables.exec = Jvm.exec) {pc : Nat} {Ls : Array Slot} {z : Int32} {rest : List Value} (hret : meth.sig.returnType = some .int) (hd : decode c.code pc = .ok (.ireturn, 1)) {fs : List Frame}
    (hl : ∀ (f : JFrame) (acts : List Action), f.method = m → f.locked = none → f.entered = [] → (doReturn e (T.setTop f) acts (some (.int z))).1 = T.setFrames fs) : Steps p.tables e below (T.setTop (mkF m pc Ls (.int z :: rest))) (T.setFrames fs) :=
  retOut X hx hret rfl (Or.inl ⟨rfl, Or.inl rfl, z, rfl⟩) hd hl
end New
end Jvm.RoadKit
namespace Jvm.Pilot.@@N@@
open Jvm Jvm.ClassFile Sem Op Lib Jvm.Free Jvm.Stand Jvm.LawKit Jvm.RoadKit Bundle Jvm.Pilot.@@N@@.Jvm.D
theorem own_selpriv {s : State} {args : Array Value} {y : MethodName} {n : Nat} (hins : (Jvm.Cond.instantiable y.cls n).before args s = true) (hpriv : (Jvm.Cond.privateMethod y).before args s = true) (hinst : (Jvm.Cond.instanceMethod y).before args s = true) (hy : y.cls ≠ "java/lang/invoke/MethodHandle" ∧ y.cls ≠ "java/lang/invoke/VarHandle") :
    (Jvm.Cond.selects y.cls y y).before args s = true := by
  obtain ⟨c, k, hc, hk, -, hniab, -, -⟩ := Cond.instantiable_spec hins
  have hni : k.isInterface = false := (Bool.or_eq_false_iff.mp hniab).1
  obtain ⟨mk, methM, hnamed, hmethM, -, -⟩ := Cond.instanceMethod_spec hinst
  have hfound : s.methodFound? y.cls y.name y.desc = some mk := State.methodFound?_of_named hnamed hy
  have hcls : mk.cls = c := Option.some.inj ((findClass_of_methodNamed hnamed).symm.trans hc)
  have hsel : selectMethod {} s.vm c mk = .method mk := selectMethod_private hmethM (Cond.privateMethod_at hpriv mk methM hnamed hmethM)
  simp only [Cond.before, Cond.holds, Cond.value, hc, hfound, hnamed, hsel, hcls, hk]
  simp; exact hni
theorem own_nsE {Z : State} {h : Heap} {a : Addr} {C : String} (F : Exa Z h a C) : ∀ c : Cell, h[a]? = some c → c.vm.isStatics = false := by
  obtain ⟨c, k, h1, -, -, h4, -⟩ := F
  intro c' hc; cases h1.symm.trans hc; exact h4
theorem own_nsV {Z : State} {h : Heap} {a : Addr} {k : ClassId} {ty : FieldType} {z : Int32} {vs : List Value} {dv : Value} (F : Arv Z h a k ty z vs dv) : ∀ c : Cell, h[a]? = some c → c.vm.isStatics = false := by
  obtain ⟨c, A, -⟩ := F
  intro c' hc; cases A.1.symm.trans hc; exact A.plain
theorem own_stakeep {Z : State} {h h' : Heap} {C n d : String} {v : Value} {ws : List Addr} (F : Sta Z h C n d v) (K : Keep h h' ws) (q : ∀ x ∈ ws, ∀ c : Cell, h[x]? = some c → c.vm.isStatics = false) : Sta Z h' C n d v := by
  obtain ⟨cf, i, k, f, st, cell, h1, h2, h3, h4, h5, h6, h7⟩ := F
  refine ⟨cf, i, k, f, st, cell, h1, h2, h3, h4, K.2.1 _ _ h5 (fun hm => ?_), h6, h7⟩
  rw [q st hm cell h5] at h6; cases h6
theorem own_ex {args : Array Value} {s : State} {t : Term} {C : String} (h : (Jvm.Cond.exactly t C).value args s none s [] = some true) : ∃ a, t.eval args s none [] s = some (.ref a) ∧ Exa s s.heap a C := by
  obtain ⟨a, e1⟩ := exa_v h; exact ⟨a, e1, Exa.start e1 h⟩
theorem own_evI {args : Array Value} {s : State} {t : Term} {z : Int32} (h : (Jvm.Cond.eq t (.int z)).value args s none s [] = some true) : t.eval args s none [] s = some (.int z) := by
  cases hv : t.eval args s none [] s with
  | none => simp [Cond.value, hv] at h
  | some x => cases x <;> simp [Cond.value, Term.eval, hv] at h ⊢; exact h
theorem own_evJ {args : Array Value} {s : State} {t : Term} {z : Int64} (h : (Jvm.Cond.eq t (.long z)).value args s none s [] = some true) : t.eval args s none [] s = some (.long z) := by
  cases hv : t.eval args s none [] s with
  | none => simp [Cond.value, hv] at h
  | some x => cases x <;> simp [Cond.value, Term.eval, hv] at h ⊢; exact h
theorem own_fldV {args : Array Value} {s : State} {t : Term} {a : Addr} {C n d : String} {v : Value} (ev : t.eval args s none [] s = some (.ref a)) (h : (Term.field t C n d).eval args s none [] s = some v) : Fld s s.heap a C n d v := by
  refine Fld.start ?_
  rw [← fld_at (args := args) (first := s) (o := none) (idx := []) ev]; exact h
theorem own_lt (a b : Int32) : a < b ↔ a.toInt < b.toInt := Int32.lt_iff_toInt_lt
theorem own_le (a b : Int32) : a ≤ b ↔ a.toInt ≤ b.toInt := Int32.le_iff_toInt_le
theorem own_eqi (a b : Int32) : a = b ↔ a.toInt = b.toInt := Int32.toInt_inj.symm
theorem own_ltL (a b : Int64) : a < b ↔ a.toInt < b.toInt := Int64.lt_iff_toInt_lt
theorem own_eqL (a b : Int64) : a = b ↔ a.toInt = b.toInt := Int64.toInt_inj.symm
theorem own_evR {args : Array Value} {s : State} {t u : Term} {a : Addr} (h : (Jvm.Cond.eq t u).value args s none s [] = some true) (hu : u.eval args s none [] s = some (.ref a)) : t.eval args s none [] s = some (.ref a) := by
  cases hv : t.eval args s none [] s with
  | none => simp [Cond.value, hv] at h
  | some x => cases x <;> simp [Cond.value, hu, hv] at h ⊢; exact h
theorem own_len {args : Array Value} {s : State} {t : Term} {a : Addr} {cl : Cell} {z : Int32} (ev : t.eval args s none [] s = some (.ref a)) (hc : s.arrayAt? a = some cl) (h : (Term.length t).eval args s none [] s = some (.int z)) : cl.slots.size < 2 ^ 31 ∧ cl.slots.size.toInt32 = z := by
  by_cases q : cl.slots.size < 2147483648
  · simp [Term.eval, ev, hc, q] at h; exact ⟨q, h⟩
  · simp [Term.eval, ev, hc, q] at h
theorem pn_0 : plainName "com/example/fat_envelope/fatenvelope/FieldScanner" = true := by first | (simp [plainName, overriddenIn]; done) | decide +kernel
theorem d1_0 : decode prog_37_method_17_code 0 = .ok (.iload_n 0, 1) := by decide +kernel
theorem d1_1 : decode prog_37_method_17_code 1 = .ok (.getstatic 146, 3) := by decide +kernel
theorem d1_4 : decode prog_37_method_17_code 4 = .ok (.arraylength, 1) := by decide +kernel
theorem d1_5 : decode prog_37_method_17_code 5 = .ok (.if_icmp .ge 15, 3) := by decide +kernel
theorem d1_8 : decode prog_37_method_17_code 8 = .ok (.getstatic 146, 3) := by decide +kernel
theorem d1_11 : decode prog_37_method_17_code 11 = .ok (.iload_n 0, 1) := by decide +kernel
theorem d1_12 : decode prog_37_method_17_code 12 = .ok (.baload, 1) := by decide +kernel
theorem d1_13 : decode prog_37_method_17_code 13 = .ok (.ifCond .eq 7, 3) := by decide +kernel
theorem d1_16 : decode prog_37_method_17_code 16 = .ok (.iconst 1, 1) := by decide +kernel
theorem d1_17 : decode prog_37_method_17_code 17 = .ok (.goto 4, 3) := by decide +kernel
theorem d1_20 : decode prog_37_method_17_code 20 = .ok (.iconst 0, 1) := by decide +kernel
theorem d1_21 : decode prog_37_method_17_code 21 = .ok (.ireturn, 1) := by decide +kernel
theorem ef_1 (m : MethodId) (p1_0 : Int32) : entryFrame m #[(.int p1_0)] 1 = mkF m 0 #[.val (.int p1_0)] [] := by first | (simp [entryFrame, mkF, argsToLocals, Value.category]; done) | rfl
def own_val (p1_0 : Int32) (cl_u_TOKEN_CHARACTERS : Cell) : Int32 := (if p1_0 < (128 : Int32) then (if (atv cl_u_TOKEN_CHARACTERS p1_0) = (0 : Int32) then (0 : Int32) else (1 : Int32)) else (0 : Int32))
def Q1 (Z : State) (p1_0 : Int32) (u_TOKEN_CHARACTERS : Addr) (cl_u_TOKEN_CHARACTERS : Cell) (h0 : Heap) (n0 : Nat) (v : Option Value) (h : Heap) (L : List Loc) : Prop := v = some (.int (own_val p1_0 cl_u_TOKEN_CHARACTERS)) ∧ Fr n0 L ∧ h = h0
set_option maxRecDepth 65536 in
set_option maxHeartbeats 40000000 in
theorem rm1 (l : Launch) (Z : State) (a0 : Array Value) (hw : ∀ d ∈ tables_1, d.before a0 Z = true) (ws : List Jvm.Cond) (p1_0 : Int32) (u_TOKEN_CHARACTERS : Addr) (cl_u_TOKEN_CHARACTERS : Cell) (h0 : Heap) (n0 : Nat) (Z0 : n0 ≤ h0.size) (Sv : Sta Z h0 "com/example/fat_envelope/fatenvelope/FieldScanner" "TOKEN_CHARACTERS" "[Z" (.ref u_TOKEN_CHARACTERS)) (Tb : Tab Z h0 u_TOKEN_CHARACTERS cl_u_TOKEN_CHARACTERS .boolean (128 : Int32)) (hp : ¬ (p1_0 < (0 : Int32))) :
    MetFree l (⟨"com/example/fat_envelope/fatenvelope/FieldScanner", "isTokenCharacter", "(I)Z"⟩ : MethodName) (head1 (Jvm.Cond.code (⟨"com/example/fat_envelope/fatenvelope/FieldScanner", "isTokenCharacter", "(I)Z"⟩ : MethodName) prog_37_method_17_code 1 (some .boolean) :: ws) ({ frames := 0, cells := 0, slots := 0, locals := 0 } : Room)) (fun a U => a = #[(.int p1_0)] ∧ Z.Warmed39 U.vm ∧ U.heap = h0) (fun _ _ _ _ _ => True) (fun _ U o U' => ∃ v L, o = .returned v ∧ Q1 Z p1_0 u_TOKEN_CHARACTERS cl_u_TOKEN_CHARACTERS h0 n0 v U'.heap L ∧ FrameEnd U o U' L ({ frames := 0, cells := 0, slots := 0, locals := 0 } : Room).cells ({ frames := 0, cells := 0, slots := 0, locals := 0 } : Room).slots) := by
  refine MetFree.of_bodySF (plainFor_of_name pn_0) hisR ?_
  intro p e s m args below meth c s₁ Bd hml0 hP hK
  obtain ⟨rfl, hZ, hh⟩ := hP
  have hx := Bd.exec
  have hby := Bd.bytes
  have hml : c.maxLocals = 1 := hml0
  have hown : s.vm.findClass "com/example/fat_envelope/fatenvelope/FieldScanner" = some m.cls := findClass_of_methodNamed Bd.named
  have hnm := (name_of_methodNamed Bd.named Bd.method).1
  have X0 : Stand p l e ({ frames := 0, cells := 0, slots := 0, locals := 0 } : Room) s m #[(.int p1_0)] below meth c s₁ [] 0 0 := Stand.of_body Bd
  have e0 : s₁.heap = h0 := by rw [← hh, Bd.state]; rfl
  have N0 := Fr.nil n0
  have pre0 : ∀ t, Steps p.tables e below (s₁.setTop (mkF m 0 #[.val (.int p1_0)] [])) t → Steps p.tables e below (s₁.setTop (entryFrame m #[(.int p1_0)] 1)) t := fun t k => castTop (ef_1 m p1_0) k
  obtain ⟨T1, X1, e1, st1⟩ := getS2 X0 hx hZ hown (host := "") (Or.inl (hw _ (List.mem_of_getElem? (i := 4) rfl))) Via.refl e0 Sv (g := (mkF m 1 #[.val (.int p1_0)] [(.int p1_0)])) rfl (hb hby d1_1)
  have k2 : ∀ t, Steps p.tables e below (T1.setTop (mkF m 5 #[.val (.int p1_0)] [(.int (128 : Int32)), (.int p1_0)])) t → Steps p.tables e below (s₁.setTop (entryFrame m #[(.int p1_0)] 1)) t := by
    intro t k
    refine pre0 t ?_
    show Steps p.tables e below (s₁.setTop (mkF m 0 #[.val (.int p1_0)] [])) _
    refine XS.iloadN X0.here hx rfl (hb hby d1_0) rfl ?_
    show Steps p.tables e below (s₁.setTop (mkF m 1 #[.val (.int p1_0)] [(.int p1_0)])) _
    refine st1 _ ?_
    show Steps p.tables e below (T1.setTop (mkF m 4 #[.val (.int p1_0)] [(.ref u_TOKEN_CHARACTERS), (.int p1_0)])) _
    refine X1.arraylength hx (by rw [e1]; exact Tb.1.1) (State.isArrayOf_alike hZ.alike Tb.1.2.1) (g := (mkF m 4 #[.val (.int p1_0)] [(.ref u_TOKEN_CHARACTERS), (.int p1_0)])) rfl rfl (hb hby d1_4) _ ?_
    rw [len_of Tb.2.1 Tb.2.2.1]
    exact k
  by_cases hc5_3 : p1_0 < (128 : Int32)
  · skip
    obtain ⟨T4, X4, e4, st4⟩ := getS2 X1 hx hZ hown (host := "") (Or.inl (hw _ (List.mem_of_getElem? (i := 4) rfl))) Via.refl e1 Sv (g := (mkF m 8 #[.val (.int p1_0)] [])) rfl (hb hby d1_8)
    have hin5 : ¬ (p1_0 < 0 ∨ cl_u_TOKEN_CHARACTERS.slots.size ≤ (p1_0).toNatClampNeg) := inb_of Tb.2.1 ⟨hp, hc5_3⟩
    have k6 : ∀ t, Steps p.tables e below (T4.setTop (mkF m 13 #[.val (.int p1_0)] [(.int (atv cl_u_TOKEN_CHARACTERS p1_0))])) t → Steps p.tables e below (s₁.setTop (entryFrame m #[(.int p1_0)] 1)) t := by
      intro t k
      refine k2 t ?_
      show Steps p.tables e below (T1.setTop (mkF m 5 #[.val (.int p1_0)] [(.int (128 : Int32)), (.int p1_0)])) _
      refine XS.icmpNo X1.here hx rfl (hb hby d1_5) rfl (tlt hc5_3).2.1 ?_
      show Steps p.tables e below (T1.setTop (mkF m 8 #[.val (.int p1_0)] [])) _
      refine st4 _ ?_
      show Steps p.tables e below (T4.setTop (mkF m 11 #[.val (.int p1_0)] [(.ref u_TOKEN_CHARACTERS)])) _
      refine XS.iloadN X4.here hx rfl (hb hby d1_11) rfl ?_
      show Steps p.tables e below (T4.setTop (mkF m 12 #[.val (.int p1_0)] [(.int p1_0), (.ref u_TOKEN_CHARACTERS)])) _
      refine X4.baloadBooleans hx (j := p1_0) (v := (.int (atv cl_u_TOKEN_CHARACTERS p1_0))) (by rw [e4]; exact Tb.1.1) (State.isArrayOf_alike hZ.alike Tb.1.2.1) Tb.1.2.2 hin5 (Tb.2.2.2 _ hin5) (g := (mkF m 12 #[.val (.int p1_0)] [(.int p1_0), (.ref u_TOKEN_CHARACTERS)])) rfl rfl (hb hby d1_12) _ ?_
      exact k
    by_cases hc13_7 : (atv cl_u_TOKEN_CHARACTERS p1_0) = (0 : Int32)
    · skip
      have k8 : ∀ t, Steps p.tables e below (T4.setTop (mkF m 21 #[.val (.int p1_0)] [(.int (0 : Int32))])) t → Steps p.tables e below (s₁.setTop (entryFrame m #[(.int p1_0)] 1)) t := by
        intro t k
        refine k6 t ?_
        show Steps p.tables e below (T4.setTop (mkF m 13 #[.val (.int p1_0)] [(.int (atv cl_u_TOKEN_CHARACTERS p1_0))])) _
        refine XS.ifYes X4.here hx rfl (pc0 := 13) (pc' := 20) rfl (hb hby d1_13) rfl ((if0 _ _).trans (teq hc13_7).1) (by decide) (by decide) ?_
        show Steps p.tables e below (T4.setTop (mkF m 20 #[.val (.int p1_0)] [])) _
        refine XS.iconst X4.here hx rfl (hb hby d1_20) ?_
        exact k
      obtain ⟨fs, hr, hrun, hended, hW, hsame⟩ := X4.leave (v := some (.int (0 : Int32))) (fun h => by rw [Bd.returns] at h; cases h)
      refine ⟨_, _, k8 _ ?_, hrun, hended, _, _, rfl, ?_, ⟨_, rfl⟩, hW, hsame.mono (by decide) (by decide)⟩
      · exact retN X4 hx (t := .boolean) Bd.returns (by simp) (hb hby d1_21) hr
      · show Q1 Z p1_0 u_TOKEN_CHARACTERS cl_u_TOKEN_CHARACTERS h0 n0 _ T4.heap _
        rw [e4]
        exact ⟨congrArg (fun z => some (Value.int z)) (show ((0 : Int32) : Int32) = own_val p1_0 cl_u_TOKEN_CHARACTERS from by unfold own_val; rw [if_pos hc5_3, if_pos hc13_7]), N0, rfl⟩
    · skip
      have k9 : ∀ t, Steps p.tables e below (T4.setTop (mkF m 21 #[.val (.int p1_0)] [(.int (1 : Int32))])) t → Steps p.tables e below (s₁.setTop (entryFrame m #[(.int p1_0)] 1)) t := by
        intro t k
        refine k6 t ?_
        show Steps p.tables e below (T4.setTop (mkF m 13 #[.val (.int p1_0)] [(.int (atv cl_u_TOKEN_CHARACTERS p1_0))])) _
        refine XS.ifNo X4.here hx rfl (hb hby d1_13) rfl ((if0 _ _).trans (feq hc13_7).1) ?_
        show Steps p.tables e below (T4.setTop (mkF m 16 #[.val (.int p1_0)] [])) _
        refine XS.iconst X4.here hx rfl (hb hby d1_16) ?_
        show Steps p.tables e below (T4.setTop (mkF m 17 #[.val (.int p1_0)] [(.int (1 : Int32))])) _
        refine XS.goto X4.here hx rfl (pc0 := 17) (pc' := 21) rfl (hb hby d1_17) (by decide) (by decide) ?_
        exact k
      obtain ⟨fs, hr, hrun, hended, hW, hsame⟩ := X4.leave (v := some (.int (1 : Int32))) (fun h => by rw [Bd.returns] at h; cases h)
      refine ⟨_, _, k9 _ ?_, hrun, hended, _, _, rfl, ?_, ⟨_, rfl⟩, hW, hsame.mono (by decide) (by decide)⟩
      · exact retN X4 hx (t := .boolean) Bd.returns (by simp) (hb hby d1_21) hr
      · show Q1 Z p1_0 u_TOKEN_CHARACTERS cl_u_TOKEN_CHARACTERS h0 n0 _ T4.heap _
        rw [e4]
        exact ⟨congrArg (fun z => some (Value.int z)) (show ((1 : Int32) : Int32) = own_val p1_0 cl_u_TOKEN_CHARACTERS from by unfold own_val; rw [if_pos hc5_3, if_neg hc13_7]), N0, rfl⟩
  · skip
    have k10 : ∀ t, Steps p.tables e below (T1.setTop (mkF m 21 #[.val (.int p1_0)] [(.int (0 : Int32))])) t → Steps p.tables e below (s₁.setTop (entryFrame m #[(.int p1_0)] 1)) t := by
      intro t k
      refine k2 t ?_
      show Steps p.tables e below (T1.setTop (mkF m 5 #[.val (.int p1_0)] [(.int (128 : Int32)), (.int p1_0)])) _
      refine XS.icmpYes X1.here hx rfl (pc0 := 5) (pc' := 20) rfl (hb hby d1_5) rfl (flt hc5_3).2.1 (by decide) (by decide) ?_
      show Steps p.tables e below (T1.setTop (mkF m 20 #[.val (.int p1_0)] [])) _
      refine XS.iconst X1.here hx rfl (hb hby d1_20) ?_
      exact k
    obtain ⟨fs, hr, hrun, hended, hW, hsame⟩ := X1.leave (v := some (.int (0 : Int32))) (fun h => by rw [Bd.returns] at h; cases h)
    refine ⟨_, _, k10 _ ?_, hrun, hended, _, _, rfl, ?_, ⟨_, rfl⟩, hW, hsame.mono (by decide) (by decide)⟩
    · exact retN X1 hx (t := .boolean) Bd.returns (by simp) (hb hby d1_21) hr
    · show Q1 Z p1_0 u_TOKEN_CHARACTERS cl_u_TOKEN_CHARACTERS h0 n0 _ T1.heap _
      rw [e1]
      exact ⟨congrArg (fun z => some (Value.int z)) (show ((0 : Int32) : Int32) = own_val p1_0 cl_u_TOKEN_CHARACTERS from by unfold own_val; rw [if_neg hc5_3]), N0, rfl⟩
theorem pn_1 : plainName "com/example/fat_envelope/fatenvelope/FieldScannerIsTokenCharacterPinLaw" = true := by first | (simp [plainName, overriddenIn]; done) | decide +kernel
theorem d2_0 : decode method_3_code 0 = .ok (.iload_n 0, 1) := by decide +kernel
theorem d2_1 : decode method_3_code 1 = .ok (.bipush 32, 2) := by decide +kernel
theorem d2_3 : decode method_3_code 3 = .ok (.if_icmp .le 9, 3) := by decide +kernel
theorem d2_6 : decode method_3_code 6 = .ok (.iload_n 0, 1) := by decide +kernel
theorem d2_7 : decode method_3_code 7 = .ok (.bipush 127, 2) := by decide +kernel
theorem d2_9 : decode method_3_code 9 = .ok (.if_icmp .lt 5, 3) := by decide +kernel
theorem d2_12 : decode method_3_code 12 = .ok (.iconst 0, 1) := by decide +kernel
theorem d2_13 : decode method_3_code 13 = .ok (.ireturn, 1) := by decide +kernel
theorem d2_14 : decode method_3_code 14 = .ok (.iload_n 0, 1) := by decide +kernel
theorem d2_15 : decode method_3_code 15 = .ok (.bipush 40, 2) := by decide +kernel
theorem d2_17 : decode method_3_code 17 = .ok (.if_icmp .eq 91, 3) := by decide +kernel
theorem d2_20 : decode method_3_code 20 = .ok (.iload_n 0, 1) := by decide +kernel
theorem d2_21 : decode method_3_code 21 = .ok (.bipush 41, 2) := by decide +kernel
theorem d2_23 : decode method_3_code 23 = .ok (.if_icmp .eq 85, 3) := by decide +kernel
theorem d2_26 : decode method_3_code 26 = .ok (.iload_n 0, 1) := by decide +kernel
theorem d2_27 : decode method_3_code 27 = .ok (.bipush 60, 2) := by decide +kernel
theorem d2_29 : decode method_3_code 29 = .ok (.if_icmp .eq 79, 3) := by decide +kernel
theorem d2_32 : decode method_3_code 32 = .ok (.iload_n 0, 1) := by decide +kernel
theorem d2_33 : decode method_3_code 33 = .ok (.bipush 62, 2) := by decide +kernel
theorem d2_35 : decode method_3_code 35 = .ok (.if_icmp .eq 73, 3) := by decide +kernel
theorem d2_38 : decode method_3_code 38 = .ok (.iload_n 0, 1) := by decide +kernel
theorem d2_39 : decode method_3_code 39 = .ok (.bipush 64, 2) := by decide +kernel
theorem d2_41 : decode method_3_code 41 = .ok (.if_icmp .eq 67, 3) := by decide +kernel
theorem d2_44 : decode method_3_code 44 = .ok (.iload_n 0, 1) := by decide +kernel
theorem d2_45 : decode method_3_code 45 = .ok (.bipush 44, 2) := by decide +kernel
theorem d2_47 : decode method_3_code 47 = .ok (.if_icmp .eq 61, 3) := by decide +kernel
theorem d2_50 : decode method_3_code 50 = .ok (.iload_n 0, 1) := by decide +kernel
theorem d2_51 : decode method_3_code 51 = .ok (.bipush 59, 2) := by decide +kernel
theorem d2_53 : decode method_3_code 53 = .ok (.if_icmp .eq 55, 3) := by decide +kernel
theorem d2_56 : decode method_3_code 56 = .ok (.iload_n 0, 1) := by decide +kernel
theorem d2_57 : decode method_3_code 57 = .ok (.bipush 58, 2) := by decide +kernel
theorem d2_59 : decode method_3_code 59 = .ok (.if_icmp .eq 49, 3) := by decide +kernel
theorem d2_62 : decode method_3_code 62 = .ok (.iload_n 0, 1) := by decide +kernel
theorem d2_63 : decode method_3_code 63 = .ok (.bipush 92, 2) := by decide +kernel
theorem d2_65 : decode method_3_code 65 = .ok (.if_icmp .eq 43, 3) := by decide +kernel
theorem d2_68 : decode method_3_code 68 = .ok (.iload_n 0, 1) := by decide +kernel
theorem d2_69 : decode method_3_code 69 = .ok (.bipush 34, 2) := by decide +kernel
theorem d2_71 : decode method_3_code 71 = .ok (.if_icmp .eq 37, 3) := by decide +kernel
theorem d2_74 : decode method_3_code 74 = .ok (.iload_n 0, 1) := by decide +kernel
theorem d2_75 : decode method_3_code 75 = .ok (.bipush 47, 2) := by decide +kernel
theorem d2_77 : decode method_3_code 77 = .ok (.if_icmp .eq 31, 3) := by decide +kernel
theorem d2_80 : decode method_3_code 80 = .ok (.iload_n 0, 1) := by decide +kernel
theorem d2_81 : decode method_3_code 81 = .ok (.bipush 91, 2) := by decide +kernel
theorem d2_83 : decode method_3_code 83 = .ok (.if_icmp .eq 25, 3) := by decide +kernel
theorem d2_86 : decode method_3_code 86 = .ok (.iload_n 0, 1) := by decide +kernel
theorem d2_87 : decode method_3_code 87 = .ok (.bipush 93, 2) := by decide +kernel
theorem d2_89 : decode method_3_code 89 = .ok (.if_icmp .eq 19, 3) := by decide +kernel
theorem d2_92 : decode method_3_code 92 = .ok (.iload_n 0, 1) := by decide +kernel
theorem d2_93 : decode method_3_code 93 = .ok (.bipush 63, 2) := by decide +kernel
theorem d2_95 : decode method_3_code 95 = .ok (.if_icmp .eq 13, 3) := by decide +kernel
theorem d2_98 : decode method_3_code 98 = .ok (.iload_n 0, 1) := by decide +kernel
theorem d2_99 : decode method_3_code 99 = .ok (.bipush 61, 2) := by decide +kernel
theorem d2_101 : decode method_3_code 101 = .ok (.if_icmp .eq 7, 3) := by decide +kernel
theorem d2_104 : decode method_3_code 104 = .ok (.iconst 1, 1) := by decide +kernel
theorem d2_105 : decode method_3_code 105 = .ok (.goto 4, 3) := by decide +kernel
theorem d2_108 : decode method_3_code 108 = .ok (.iconst 0, 1) := by decide +kernel
theorem d2_109 : decode method_3_code 109 = .ok (.ireturn, 1) := by decide +kernel
theorem ef_2 (m : MethodId) (p2_0 : Int32) : entryFrame m #[(.int p2_0)] 1 = mkF m 0 #[.val (.int p2_0)] [] := by first | (simp [entryFrame, mkF, argsToLocals, Value.category]; done) | rfl
def own_ref (p2_0 : Int32) : Int32 := (if (32 : Int32) < p2_0 then (if p2_0 < (127 : Int32) then (if p2_0 = (40 : Int32) then (0 : Int32) else (if p2_0 = (41 : Int32) then (0 : Int32) else (if p2_0 = (60 : Int32) then (0 : Int32) else (if p2_0 = (62 : Int32) then (0 : Int32) else (if p2_0 = (64 : Int32) then (0 : Int32) else (if p2_0 = (44 : Int32) then (0 : Int32) else (if p2_0 = (59 : Int32) then (0 : Int32) else (if p2_0 = (58 : Int32) then (0 : Int32) else (if p2_0 = (92 : Int32) then (0 : Int32) else (if p2_0 = (34 : Int32) then (0 : Int32) else (if p2_0 = (47 : Int32) then (0 : Int32) else (if p2_0 = (91 : Int32) then (0 : Int32) else (if p2_0 = (93 : Int32) then (0 : Int32) else (if p2_0 = (63 : Int32) then (0 : Int32) else (if p2_0 = (61 : Int32) then (0 : Int32) else (1 : Int32)))))))))))))))) else (0 : Int32)) else (0 : Int32))
def Q2 (Z : State) (p2_0 : Int32) (h0 : Heap) (n0 : Nat) (v : Option Value) (h : Heap) (L : List Loc) : Prop := v = some (.int (own_ref p2_0)) ∧ Fr n0 L ∧ h = h0
set_option maxRecDepth 65536 in
set_option maxHeartbeats 40000000 in
theorem rm2 (l : Launch) (Z : State) (a0 : Array Value) (hw : ∀ d ∈ tables_1, d.before a0 Z = true) (ws : List Jvm.Cond) (p2_0 : Int32) (h0 : Heap) (n0 : Nat) (Z0 : n0 ≤ h0.size) :
    MetFree l (⟨"com/example/fat_envelope/fatenvelope/FieldScannerIsTokenCharacterPinLaw", "expected", "(I)Z"⟩ : MethodName) (head1 (Jvm.Cond.code (⟨"com/example/fat_envelope/fatenvelope/FieldScannerIsTokenCharacterPinLaw", "expected", "(I)Z"⟩ : MethodName) method_3_code 1 (some .boolean) :: ws) ({ frames := 0, cells := 0, slots := 0, locals := 0 } : Room)) (fun a U => a = #[(.int p2_0)] ∧ Z.Warmed39 U.vm ∧ U.heap = h0) (fun _ _ _ _ _ => True) (fun _ U o U' => ∃ v L, o = .returned v ∧ Q2 Z p2_0 h0 n0 v U'.heap L ∧ FrameEnd U o U' L ({ frames := 0, cells := 0, slots := 0, locals := 0 } : Room).cells ({ frames := 0, cells := 0, slots := 0, locals := 0 } : Room).slots) := by
  refine MetFree.of_bodySF (plainFor_of_name pn_1) hisR ?_
  intro p e s m args below meth c s₁ Bd hml0 hP hK
  obtain ⟨rfl, hZ, hh⟩ := hP
  have hx := Bd.exec
  have hby := Bd.bytes
  have hml : c.maxLocals = 1 := hml0
  have hown : s.vm.findClass "com/example/fat_envelope/fatenvelope/FieldScannerIsTokenCharacterPinLaw" = some m.cls := findClass_of_methodNamed Bd.named
  have hnm := (name_of_methodNamed Bd.named Bd.method).1
  have X0 : Stand p l e ({ frames := 0, cells := 0, slots := 0, locals := 0 } : Room) s m #[(.int p2_0)] below meth c s₁ [] 0 0 := Stand.of_body Bd
  have e0 : s₁.heap = h0 := by rw [← hh, Bd.state]; rfl
  have N0 := Fr.nil n0
  have pre0 : ∀ t, Steps p.tables e below (s₁.setTop (mkF m 0 #[.val (.int p2_0)] [])) t → Steps p.tables e below (s₁.setTop (entryFrame m #[(.int p2_0)] 1)) t := fun t k => castTop (ef_2 m p2_0) k
  have k1 : ∀ t, Steps p.tables e below (s₁.setTop (mkF m 3 #[.val (.int p2_0)] [(.int (32 : Int32)), (.int p2_0)])) t → Steps p.tables e below (s₁.setTop (entryFrame m #[(.int p2_0)] 1)) t := by
    intro t k
    refine pre0 t ?_
    show Steps p.tables e below (s₁.setTop (mkF m 0 #[.val (.int p2_0)] [])) _
    refine XS.iloadN X0.here hx rfl (hb hby d2_0) rfl ?_
    show Steps p.tables e below (s₁.setTop (mkF m 1 #[.val (.int p2_0)] [(.int p2_0)])) _
    refine XS.bipush X0.here hx rfl (hb hby d2_1) ?_
    exact k
  by_cases hc3_2 : (32 : Int32) < p2_0
  · skip
    have k3 : ∀ t, Steps p.tables e below (s₁.setTop (mkF m 9 #[.val (.int p2_0)] [(.int (127 : Int32)), (.int p2_0)])) t → Steps p.tables e below (s₁.setTop (entryFrame m #[(.int p2_0)] 1)) t := by
      intro t k
      refine k1 t ?_
      show Steps p.tables e below (s₁.setTop (mkF m 3 #[.val (.int p2_0)] [(.int (32 : Int32)), (.int p2_0)])) _
      refine XS.icmpNo X0.here hx rfl (hb hby d2_3) rfl (tlt hc3_2).2.2.2 ?_
      show Steps p.tables e below (s₁.setTop (mkF m 6 #[.val (.int p2_0)] [])) _
      refine XS.iloadN X0.here hx rfl (hb hby d2_6) rfl ?_
      show Steps p.tables e below (s₁.setTop (mkF m 7 #[.val (.int p2_0)] [(.int p2_0)])) _
      refine XS.bipush X0.here hx rfl (hb hby d2_7) ?_
      exact k
    by_cases hc9_4 : p2_0 < (127 : Int32)
    · skip
      have k5 : ∀ t, Steps p.tables e below (s₁.setTop (mkF m 17 #[.val (.int p2_0)] [(.int (40 : Int32)), (.int p2_0)])) t → Steps p.tables e below (s₁.setTop (entryFrame m #[(.int p2_0)] 1)) t := by
        intro t k
        refine k3 t ?_
        show Steps p.tables e below (s₁.setTop (mkF m 9 #[.val (.int p2_0)] [(.int (127 : Int32)), (.int p2_0)])) _
        refine XS.icmpYes X0.here hx rfl (pc0 := 9) (pc' := 14) rfl (hb hby d2_9) rfl (tlt hc9_4).1 (by decide) (by decide) ?_
        show Steps p.tables e below (s₁.setTop (mkF m 14 #[.val (.int p2_0)] [])) _
        refine XS.iloadN X0.here hx rfl (hb hby d2_14) rfl ?_
        show Steps p.tables e below (s₁.setTop (mkF m 15 #[.val (.int p2_0)] [(.int p2_0)])) _
        refine XS.bipush X0.here hx rfl (hb hby d2_15) ?_
        exact k
      by_cases hc17_6 : p2_0 = (40 : Int32)
      · skip
        have k7 : ∀ t, Steps p.tables e below (s₁.setTop (mkF m 109 #[.val (.int p2_0)] [(.int (0 : Int32))])) t → Steps p.tables e below (s₁.setTop (entryFrame m #[(.int p2_0)] 1)) t := by
          intro t k
          refine k5 t ?_
          show Steps p.tables e below (s₁.setTop (mkF m 17 #[.val (.int p2_0)] [(.int (40 : Int32)), (.int p2_0)])) _
          refine XS.icmpYes X0.here hx rfl (pc0 := 17) (pc' := 108) rfl (hb hby d2_17) rfl (teq hc17_6).1 (by decide) (by decide) ?_
          show Steps p.tables e below (s₁.setTop (mkF m 108 #[.val (.int p2_0)] [])) _
          refine XS.iconst X0.here hx rfl (hb hby d2_108) ?_
          exact k
        obtain ⟨fs, hr, hrun, hended, hW, hsame⟩ := X0.leave (v := some (.int (0 : Int32))) (fun h => by rw [Bd.returns] at h; cases h)
        refine ⟨_, _, k7 _ ?_, hrun, hended, _, _, rfl, ?_, ⟨_, rfl⟩, hW, hsame.mono (by decide) (by decide)⟩
        · exact retN X0 hx (t := .boolean) Bd.returns (by simp) (hb hby d2_109) hr
        · show Q2 Z p2_0 h0 n0 _ s₁.heap _
          rw [e0]
          exact ⟨congrArg (fun z => some (Value.int z)) (show ((0 : Int32) : Int32) = own_ref p2_0 from by unfold own_ref; rw [if_pos hc3_2, if_pos hc9_4, if_pos hc17_6]), N0, rfl⟩
      · skip
        have k8 : ∀ t, Steps p.tables e below (s₁.setTop (mkF m 23 #[.val (.int p2_0)] [(.int (41 : Int32)), (.int p2_0)])) t → Steps p.tables e below (s₁.setTop (entryFrame m #[(.int p2_0)] 1)) t := by
          intro t k
          refine k5 t ?_
          show Steps p.tables e below (s₁.setTop (mkF m 17 #[.val (.int p2_0)] [(.int (40 : Int32)), (.int p2_0)])) _
          refine XS.icmpNo X0.here hx rfl (hb hby d2_17) rfl (feq hc17_6).1 ?_
          show Steps p.tables e below (s₁.setTop (mkF m 20 #[.val (.int p2_0)] [])) _
          refine XS.iloadN X0.here hx rfl (hb hby d2_20) rfl ?_
          show Steps p.tables e below (s₁.setTop (mkF m 21 #[.val (.int p2_0)] [(.int p2_0)])) _
          refine XS.bipush X0.here hx rfl (hb hby d2_21) ?_
          exact k
        by_cases hc23_9 : p2_0 = (41 : Int32)
        · skip
          have k10 : ∀ t, Steps p.tables e below (s₁.setTop (mkF m 109 #[.val (.int p2_0)] [(.int (0 : Int32))])) t → Steps p.tables e below (s₁.setTop (entryFrame m #[(.int p2_0)] 1)) t := by
            intro t k
            refine k8 t ?_
            show Steps p.tables e below (s₁.setTop (mkF m 23 #[.val (.int p2_0)] [(.int (41 : Int32)), (.int p2_0)])) _
            refine XS.icmpYes X0.here hx rfl (pc0 := 23) (pc' := 108) rfl (hb hby d2_23) rfl (teq hc23_9).1 (by decide) (by decide) ?_
            show Steps p.tables e below (s₁.setTop (mkF m 108 #[.val (.int p2_0)] [])) _
            refine XS.iconst X0.here hx rfl (hb hby d2_108) ?_
            exact k
          obtain ⟨fs, hr, hrun, hended, hW, hsame⟩ := X0.leave (v := some (.int (0 : Int32))) (fun h => by rw [Bd.returns] at h; cases h)
          refine ⟨_, _, k10 _ ?_, hrun, hended, _, _, rfl, ?_, ⟨_, rfl⟩, hW, hsame.mono (by decide) (by decide)⟩
          · exact retN X0 hx (t := .boolean) Bd.returns (by simp) (hb hby d2_109) hr
          · show Q2 Z p2_0 h0 n0 _ s₁.heap _
            rw [e0]
            exact ⟨congrArg (fun z => some (Value.int z)) (show ((0 : Int32) : Int32) = own_ref p2_0 from by unfold own_ref; rw [if_pos hc3_2, if_pos hc9_4, if_neg hc17_6, if_pos hc23_9]), N0, rfl⟩
        · skip
          have k11 : ∀ t, Steps p.tables e below (s₁.setTop (mkF m 29 #[.val (.int p2_0)] [(.int (60 : Int32)), (.int p2_0)])) t → Steps p.tables e below (s₁.setTop (entryFrame m #[(.int p2_0)] 1)) t := by
            intro t k
            refine k8 t ?_
            show Steps p.tables e below (s₁.setTop (mkF m 23 #[.val (.int p2_0)] [(.int (41 : Int32)), (.int p2_0)])) _
            refine XS.icmpNo X0.here hx rfl (hb hby d2_23) rfl (feq hc23_9).1 ?_
            show Steps p.tables e below (s₁.setTop (mkF m 26 #[.val (.int p2_0)] [])) _
            refine XS.iloadN X0.here hx rfl (hb hby d2_26) rfl ?_
            show Steps p.tables e below (s₁.setTop (mkF m 27 #[.val (.int p2_0)] [(.int p2_0)])) _
            refine XS.bipush X0.here hx rfl (hb hby d2_27) ?_
            exact k
          by_cases hc29_12 : p2_0 = (60 : Int32)
          · skip
            have k13 : ∀ t, Steps p.tables e below (s₁.setTop (mkF m 109 #[.val (.int p2_0)] [(.int (0 : Int32))])) t → Steps p.tables e below (s₁.setTop (entryFrame m #[(.int p2_0)] 1)) t := by
              intro t k
              refine k11 t ?_
              show Steps p.tables e below (s₁.setTop (mkF m 29 #[.val (.int p2_0)] [(.int (60 : Int32)), (.int p2_0)])) _
              refine XS.icmpYes X0.here hx rfl (pc0 := 29) (pc' := 108) rfl (hb hby d2_29) rfl (teq hc29_12).1 (by decide) (by decide) ?_
              show Steps p.tables e below (s₁.setTop (mkF m 108 #[.val (.int p2_0)] [])) _
              refine XS.iconst X0.here hx rfl (hb hby d2_108) ?_
              exact k
            obtain ⟨fs, hr, hrun, hended, hW, hsame⟩ := X0.leave (v := some (.int (0 : Int32))) (fun h => by rw [Bd.returns] at h; cases h)
            refine ⟨_, _, k13 _ ?_, hrun, hended, _, _, rfl, ?_, ⟨_, rfl⟩, hW, hsame.mono (by decide) (by decide)⟩
            · exact retN X0 hx (t := .boolean) Bd.returns (by simp) (hb hby d2_109) hr
            · show Q2 Z p2_0 h0 n0 _ s₁.heap _
              rw [e0]
              exact ⟨congrArg (fun z => some (Value.int z)) (show ((0 : Int32) : Int32) = own_ref p2_0 from by unfold own_ref; rw [if_pos hc3_2, if_pos hc9_4, if_neg hc17_6, if_neg hc23_9, if_pos hc29_12]), N0, rfl⟩
          · skip
            have k14 : ∀ t, Steps p.tables e below (s₁.setTop (mkF m 35 #[.val (.int p2_0)] [(.int (62 : Int32)), (.int p2_0)])) t → Steps p.tables e below (s₁.setTop (entryFrame m #[(.int p2_0)] 1)) t := by
              intro t k
              refine k11 t ?_
              show Steps p.tables e below (s₁.setTop (mkF m 29 #[.val (.int p2_0)] [(.int (60 : Int32)), (.int p2_0)])) _
              refine XS.icmpNo X0.here hx rfl (hb hby d2_29) rfl (feq hc29_12).1 ?_
              show Steps p.tables e below (s₁.setTop (mkF m 32 #[.val (.int p2_0)] [])) _
              refine XS.iloadN X0.here hx rfl (hb hby d2_32) rfl ?_
              show Steps p.tables e below (s₁.setTop (mkF m 33 #[.val (.int p2_0)] [(.int p2_0)])) _
              refine XS.bipush X0.here hx rfl (hb hby d2_33) ?_
              exact k
            by_cases hc35_15 : p2_0 = (62 : Int32)
            · skip
              have k16 : ∀ t, Steps p.tables e below (s₁.setTop (mkF m 109 #[.val (.int p2_0)] [(.int (0 : Int32))])) t → Steps p.tables e below (s₁.setTop (entryFrame m #[(.int p2_0)] 1)) t := by
                intro t k
                refine k14 t ?_
                show Steps p.tables e below (s₁.setTop (mkF m 35 #[.val (.int p2_0)] [(.int (62 : Int32)), (.int p2_0)])) _
                refine XS.icmpYes X0.here hx rfl (pc0 := 35) (pc' := 108) rfl (hb hby d2_35) rfl (teq hc35_15).1 (by decide) (by decide) ?_
                show Steps p.tables e below (s₁.setTop (mkF m 108 #[.val (.int p2_0)] [])) _
                refine XS.iconst X0.here hx rfl (hb hby d2_108) ?_
                exact k
              obtain ⟨fs, hr, hrun, hended, hW, hsame⟩ := X0.leave (v := some (.int (0 : Int32))) (fun h => by rw [Bd.returns] at h; cases h)
              refine ⟨_, _, k16 _ ?_, hrun, hended, _, _, rfl, ?_, ⟨_, rfl⟩, hW, hsame.mono (by decide) (by decide)⟩
              · exact retN X0 hx (t := .boolean) Bd.returns (by simp) (hb hby d2_109) hr
              · show Q2 Z p2_0 h0 n0 _ s₁.heap _
                rw [e0]
                exact ⟨congrArg (fun z => some (Value.int z)) (show ((0 : Int32) : Int32) = own_ref p2_0 from by unfold own_ref; rw [if_pos hc3_2, if_pos hc9_4, if_neg hc17_6, if_neg hc23_9, if_neg hc29_12, if_pos hc35_15]), N0, rfl⟩
            · skip
              have k17 : ∀ t, Steps p.tables e below (s₁.setTop (mkF m 41 #[.val (.int p2_0)] [(.int (64 : Int32)), (.int p2_0)])) t → Steps p.tables e below (s₁.setTop (entryFrame m #[(.int p2_0)] 1)) t := by
                intro t k
                refine k14 t ?_
                show Steps p.tables e below (s₁.setTop (mkF m 35 #[.val (.int p2_0)] [(.int (62 : Int32)), (.int p2_0)])) _
                refine XS.icmpNo X0.here hx rfl (hb hby d2_35) rfl (feq hc35_15).1 ?_
                show Steps p.tables e below (s₁.setTop (mkF m 38 #[.val (.int p2_0)] [])) _
                refine XS.iloadN X0.here hx rfl (hb hby d2_38) rfl ?_
                show Steps p.tables e below (s₁.setTop (mkF m 39 #[.val (.int p2_0)] [(.int p2_0)])) _
                refine XS.bipush X0.here hx rfl (hb hby d2_39) ?_
                exact k
              by_cases hc41_18 : p2_0 = (64 : Int32)
              · skip
                have k19 : ∀ t, Steps p.tables e below (s₁.setTop (mkF m 109 #[.val (.int p2_0)] [(.int (0 : Int32))])) t → Steps p.tables e below (s₁.setTop (entryFrame m #[(.int p2_0)] 1)) t := by
                  intro t k
                  refine k17 t ?_
                  show Steps p.tables e below (s₁.setTop (mkF m 41 #[.val (.int p2_0)] [(.int (64 : Int32)), (.int p2_0)])) _
                  refine XS.icmpYes X0.here hx rfl (pc0 := 41) (pc' := 108) rfl (hb hby d2_41) rfl (teq hc41_18).1 (by decide) (by decide) ?_
                  show Steps p.tables e below (s₁.setTop (mkF m 108 #[.val (.int p2_0)] [])) _
                  refine XS.iconst X0.here hx rfl (hb hby d2_108) ?_
                  exact k
                obtain ⟨fs, hr, hrun, hended, hW, hsame⟩ := X0.leave (v := some (.int (0 : Int32))) (fun h => by rw [Bd.returns] at h; cases h)
                refine ⟨_, _, k19 _ ?_, hrun, hended, _, _, rfl, ?_, ⟨_, rfl⟩, hW, hsame.mono (by decide) (by decide)⟩
                · exact retN X0 hx (t := .boolean) Bd.returns (by simp) (hb hby d2_109) hr
                · show Q2 Z p2_0 h0 n0 _ s₁.heap _
                  rw [e0]
                  exact ⟨congrArg (fun z => some (Value.int z)) (show ((0 : Int32) : Int32) = own_ref p2_0 from by unfold own_ref; rw [if_pos hc3_2, if_pos hc9_4, if_neg hc17_6, if_neg hc23_9, if_neg hc29_12, if_neg hc35_15, if_pos hc41_18]), N0, rfl⟩
              · skip
                have k20 : ∀ t, Steps p.tables e below (s₁.setTop (mkF m 47 #[.val (.int p2_0)] [(.int (44 : Int32)), (.int p2_0)])) t → Steps p.tables e below (s₁.setTop (entryFrame m #[(.int p2_0)] 1)) t := by
                  intro t k
                  refine k17 t ?_
                  show Steps p.tables e below (s₁.setTop (mkF m 41 #[.val (.int p2_0)] [(.int (64 : Int32)), (.int p2_0)])) _
                  refine XS.icmpNo X0.here hx rfl (hb hby d2_41) rfl (feq hc41_18).1 ?_
                  show Steps p.tables e below (s₁.setTop (mkF m 44 #[.val (.int p2_0)] [])) _
                  refine XS.iloadN X0.here hx rfl (hb hby d2_44) rfl ?_
                  show Steps p.tables e below (s₁.setTop (mkF m 45 #[.val (.int p2_0)] [(.int p2_0)])) _
                  refine XS.bipush X0.here hx rfl (hb hby d2_45) ?_
                  exact k
                by_cases hc47_21 : p2_0 = (44 : Int32)
                · skip
                  have k22 : ∀ t, Steps p.tables e below (s₁.setTop (mkF m 109 #[.val (.int p2_0)] [(.int (0 : Int32))])) t → Steps p.tables e below (s₁.setTop (entryFrame m #[(.int p2_0)] 1)) t := by
                    intro t k
                    refine k20 t ?_
                    show Steps p.tables e below (s₁.setTop (mkF m 47 #[.val (.int p2_0)] [(.int (44 : Int32)), (.int p2_0)])) _
                    refine XS.icmpYes X0.here hx rfl (pc0 := 47) (pc' := 108) rfl (hb hby d2_47) rfl (teq hc47_21).1 (by decide) (by decide) ?_
                    show Steps p.tables e below (s₁.setTop (mkF m 108 #[.val (.int p2_0)] [])) _
                    refine XS.iconst X0.here hx rfl (hb hby d2_108) ?_
                    exact k
                  obtain ⟨fs, hr, hrun, hended, hW, hsame⟩ := X0.leave (v := some (.int (0 : Int32))) (fun h => by rw [Bd.returns] at h; cases h)
                  refine ⟨_, _, k22 _ ?_, hrun, hended, _, _, rfl, ?_, ⟨_, rfl⟩, hW, hsame.mono (by decide) (by decide)⟩
                  · exact retN X0 hx (t := .boolean) Bd.returns (by simp) (hb hby d2_109) hr
                  · show Q2 Z p2_0 h0 n0 _ s₁.heap _
                    rw [e0]
                    exact ⟨congrArg (fun z => some (Value.int z)) (show ((0 : Int32) : Int32) = own_ref p2_0 from by unfold own_ref; rw [if_pos hc3_2, if_pos hc9_4, if_neg hc17_6, if_neg hc23_9, if_neg hc29_12, if_neg hc35_15, if_neg hc41_18, if_pos hc47_21]), N0, rfl⟩
                · skip
                  have k23 : ∀ t, Steps p.tables e below (s₁.setTop (mkF m 53 #[.val (.int p2_0)] [(.int (59 : Int32)), (.int p2_0)])) t → Steps p.tables e below (s₁.setTop (entryFrame m #[(.int p2_0)] 1)) t := by
                    intro t k
                    refine k20 t ?_
                    show Steps p.tables e below (s₁.setTop (mkF m 47 #[.val (.int p2_0)] [(.int (44 : Int32)), (.int p2_0)])) _
                    refine XS.icmpNo X0.here hx rfl (hb hby d2_47) rfl (feq hc47_21).1 ?_
                    show Steps p.tables e below (s₁.setTop (mkF m 50 #[.val (.int p2_0)] [])) _
                    refine XS.iloadN X0.here hx rfl (hb hby d2_50) rfl ?_
                    show Steps p.tables e below (s₁.setTop (mkF m 51 #[.val (.int p2_0)] [(.int p2_0)])) _
                    refine XS.bipush X0.here hx rfl (hb hby d2_51) ?_
                    exact k
                  by_cases hc53_24 : p2_0 = (59 : Int32)
                  · skip
                    have k25 : ∀ t, Steps p.tables e below (s₁.setTop (mkF m 109 #[.val (.int p2_0)] [(.int (0 : Int32))])) t → Steps p.tables e below (s₁.setTop (entryFrame m #[(.int p2_0)] 1)) t := by
                      intro t k
                      refine k23 t ?_
                      show Steps p.tables e below (s₁.setTop (mkF m 53 #[.val (.int p2_0)] [(.int (59 : Int32)), (.int p2_0)])) _
                      refine XS.icmpYes X0.here hx rfl (pc0 := 53) (pc' := 108) rfl (hb hby d2_53) rfl (teq hc53_24).1 (by decide) (by decide) ?_
                      show Steps p.tables e below (s₁.setTop (mkF m 108 #[.val (.int p2_0)] [])) _
                      refine XS.iconst X0.here hx rfl (hb hby d2_108) ?_
                      exact k
                    obtain ⟨fs, hr, hrun, hended, hW, hsame⟩ := X0.leave (v := some (.int (0 : Int32))) (fun h => by rw [Bd.returns] at h; cases h)
                    refine ⟨_, _, k25 _ ?_, hrun, hended, _, _, rfl, ?_, ⟨_, rfl⟩, hW, hsame.mono (by decide) (by decide)⟩
                    · exact retN X0 hx (t := .boolean) Bd.returns (by simp) (hb hby d2_109) hr
                    · show Q2 Z p2_0 h0 n0 _ s₁.heap _
                      rw [e0]
                      exact ⟨congrArg (fun z => some (Value.int z)) (show ((0 : Int32) : Int32) = own_ref p2_0 from by unfold own_ref; rw [if_pos hc3_2, if_pos hc9_4, if_neg hc17_6, if_neg hc23_9, if_neg hc29_12, if_neg hc35_15, if_neg hc41_18, if_neg hc47_21, if_pos hc53_24]), N0, rfl⟩
                  · skip
                    have k26 : ∀ t, Steps p.tables e below (s₁.setTop (mkF m 59 #[.val (.int p2_0)] [(.int (58 : Int32)), (.int p2_0)])) t → Steps p.tables e below (s₁.setTop (entryFrame m #[(.int p2_0)] 1)) t := by
                      intro t k
                      refine k23 t ?_
                      show Steps p.tables e below (s₁.setTop (mkF m 53 #[.val (.int p2_0)] [(.int (59 : Int32)), (.int p2_0)])) _
                      refine XS.icmpNo X0.here hx rfl (hb hby d2_53) rfl (feq hc53_24).1 ?_
                      show Steps p.tables e below (s₁.setTop (mkF m 56 #[.val (.int p2_0)] [])) _
                      refine XS.iloadN X0.here hx rfl (hb hby d2_56) rfl ?_
                      show Steps p.tables e below (s₁.setTop (mkF m 57 #[.val (.int p2_0)] [(.int p2_0)])) _
                      refine XS.bipush X0.here hx rfl (hb hby d2_57) ?_
                      exact k
                    by_cases hc59_27 : p2_0 = (58 : Int32)
                    · skip
                      have k28 : ∀ t, Steps p.tables e below (s₁.setTop (mkF m 109 #[.val (.int p2_0)] [(.int (0 : Int32))])) t → Steps p.tables e below (s₁.setTop (entryFrame m #[(.int p2_0)] 1)) t := by
                        intro t k
                        refine k26 t ?_
                        show Steps p.tables e below (s₁.setTop (mkF m 59 #[.val (.int p2_0)] [(.int (58 : Int32)), (.int p2_0)])) _
                        refine XS.icmpYes X0.here hx rfl (pc0 := 59) (pc' := 108) rfl (hb hby d2_59) rfl (teq hc59_27).1 (by decide) (by decide) ?_
                        show Steps p.tables e below (s₁.setTop (mkF m 108 #[.val (.int p2_0)] [])) _
                        refine XS.iconst X0.here hx rfl (hb hby d2_108) ?_
                        exact k
                      obtain ⟨fs, hr, hrun, hended, hW, hsame⟩ := X0.leave (v := some (.int (0 : Int32))) (fun h => by rw [Bd.returns] at h; cases h)
                      refine ⟨_, _, k28 _ ?_, hrun, hended, _, _, rfl, ?_, ⟨_, rfl⟩, hW, hsame.mono (by decide) (by decide)⟩
                      · exact retN X0 hx (t := .boolean) Bd.returns (by simp) (hb hby d2_109) hr
                      · show Q2 Z p2_0 h0 n0 _ s₁.heap _
                        rw [e0]
                        exact ⟨congrArg (fun z => some (Value.int z)) (show ((0 : Int32) : Int32) = own_ref p2_0 from by unfold own_ref; rw [if_pos hc3_2, if_pos hc9_4, if_neg hc17_6, if_neg hc23_9, if_neg hc29_12, if_neg hc35_15, if_neg hc41_18, if_neg hc47_21, if_neg hc53_24, if_pos hc59_27]), N0, rfl⟩
                    · skip
                      have k29 : ∀ t, Steps p.tables e below (s₁.setTop (mkF m 65 #[.val (.int p2_0)] [(.int (92 : Int32)), (.int p2_0)])) t → Steps p.tables e below (s₁.setTop (entryFrame m #[(.int p2_0)] 1)) t := by
                        intro t k
                        refine k26 t ?_
                        show Steps p.tables e below (s₁.setTop (mkF m 59 #[.val (.int p2_0)] [(.int (58 : Int32)), (.int p2_0)])) _
                        refine XS.icmpNo X0.here hx rfl (hb hby d2_59) rfl (feq hc59_27).1 ?_
                        show Steps p.tables e below (s₁.setTop (mkF m 62 #[.val (.int p2_0)] [])) _
                        refine XS.iloadN X0.here hx rfl (hb hby d2_62) rfl ?_
                        show Steps p.tables e below (s₁.setTop (mkF m 63 #[.val (.int p2_0)] [(.int p2_0)])) _
                        refine XS.bipush X0.here hx rfl (hb hby d2_63) ?_
                        exact k
                      by_cases hc65_30 : p2_0 = (92 : Int32)
                      · skip
                        have k31 : ∀ t, Steps p.tables e below (s₁.setTop (mkF m 109 #[.val (.int p2_0)] [(.int (0 : Int32))])) t → Steps p.tables e below (s₁.setTop (entryFrame m #[(.int p2_0)] 1)) t := by
                          intro t k
                          refine k29 t ?_
                          show Steps p.tables e below (s₁.setTop (mkF m 65 #[.val (.int p2_0)] [(.int (92 : Int32)), (.int p2_0)])) _
                          refine XS.icmpYes X0.here hx rfl (pc0 := 65) (pc' := 108) rfl (hb hby d2_65) rfl (teq hc65_30).1 (by decide) (by decide) ?_
                          show Steps p.tables e below (s₁.setTop (mkF m 108 #[.val (.int p2_0)] [])) _
                          refine XS.iconst X0.here hx rfl (hb hby d2_108) ?_
                          exact k
                        obtain ⟨fs, hr, hrun, hended, hW, hsame⟩ := X0.leave (v := some (.int (0 : Int32))) (fun h => by rw [Bd.returns] at h; cases h)
                        refine ⟨_, _, k31 _ ?_, hrun, hended, _, _, rfl, ?_, ⟨_, rfl⟩, hW, hsame.mono (by decide) (by decide)⟩
                        · exact retN X0 hx (t := .boolean) Bd.returns (by simp) (hb hby d2_109) hr
                        · show Q2 Z p2_0 h0 n0 _ s₁.heap _
                          rw [e0]
                          exact ⟨congrArg (fun z => some (Value.int z)) (show ((0 : Int32) : Int32) = own_ref p2_0 from by unfold own_ref; rw [if_pos hc3_2, if_pos hc9_4, if_neg hc17_6, if_neg hc23_9, if_neg hc29_12, if_neg hc35_15, if_neg hc41_18, if_neg hc47_21, if_neg hc53_24, if_neg hc59_27, if_pos hc65_30]), N0, rfl⟩
                      · skip
                        have k32 : ∀ t, Steps p.tables e below (s₁.setTop (mkF m 71 #[.val (.int p2_0)] [(.int (34 : Int32)), (.int p2_0)])) t → Steps p.tables e below (s₁.setTop (entryFrame m #[(.int p2_0)] 1)) t := by
                          intro t k
                          refine k29 t ?_
                          show Steps p.tables e below (s₁.setTop (mkF m 65 #[.val (.int p2_0)] [(.int (92 : Int32)), (.int p2_0)])) _
                          refine XS.icmpNo X0.here hx rfl (hb hby d2_65) rfl (feq hc65_30).1 ?_
                          show Steps p.tables e below (s₁.setTop (mkF m 68 #[.val (.int p2_0)] [])) _
                          refine XS.iloadN X0.here hx rfl (hb hby d2_68) rfl ?_
                          show Steps p.tables e below (s₁.setTop (mkF m 69 #[.val (.int p2_0)] [(.int p2_0)])) _
                          refine XS.bipush X0.here hx rfl (hb hby d2_69) ?_
                          exact k
                        by_cases hc71_33 : p2_0 = (34 : Int32)
                        · skip
                          have k34 : ∀ t, Steps p.tables e below (s₁.setTop (mkF m 109 #[.val (.int p2_0)] [(.int (0 : Int32))])) t → Steps p.tables e below (s₁.setTop (entryFrame m #[(.int p2_0)] 1)) t := by
                            intro t k
                            refine k32 t ?_
                            show Steps p.tables e below (s₁.setTop (mkF m 71 #[.val (.int p2_0)] [(.int (34 : Int32)), (.int p2_0)])) _
                            refine XS.icmpYes X0.here hx rfl (pc0 := 71) (pc' := 108) rfl (hb hby d2_71) rfl (teq hc71_33).1 (by decide) (by decide) ?_
                            show Steps p.tables e below (s₁.setTop (mkF m 108 #[.val (.int p2_0)] [])) _
                            refine XS.iconst X0.here hx rfl (hb hby d2_108) ?_
                            exact k
                          obtain ⟨fs, hr, hrun, hended, hW, hsame⟩ := X0.leave (v := some (.int (0 : Int32))) (fun h => by rw [Bd.returns] at h; cases h)
                          refine ⟨_, _, k34 _ ?_, hrun, hended, _, _, rfl, ?_, ⟨_, rfl⟩, hW, hsame.mono (by decide) (by decide)⟩
                          · exact retN X0 hx (t := .boolean) Bd.returns (by simp) (hb hby d2_109) hr
                          · show Q2 Z p2_0 h0 n0 _ s₁.heap _
                            rw [e0]
                            exact ⟨congrArg (fun z => some (Value.int z)) (show ((0 : Int32) : Int32) = own_ref p2_0 from by unfold own_ref; rw [if_pos hc3_2, if_pos hc9_4, if_neg hc17_6, if_neg hc23_9, if_neg hc29_12, if_neg hc35_15, if_neg hc41_18, if_neg hc47_21, if_neg hc53_24, if_neg hc59_27, if_neg hc65_30, if_pos hc71_33]), N0, rfl⟩
                        · skip
                          have k35 : ∀ t, Steps p.tables e below (s₁.setTop (mkF m 77 #[.val (.int p2_0)] [(.int (47 : Int32)), (.int p2_0)])) t → Steps p.tables e below (s₁.setTop (entryFrame m #[(.int p2_0)] 1)) t := by
                            intro t k
                            refine k32 t ?_
                            show Steps p.tables e below (s₁.setTop (mkF m 71 #[.val (.int p2_0)] [(.int (34 : Int32)), (.int p2_0)])) _
                            refine XS.icmpNo X0.here hx rfl (hb hby d2_71) rfl (feq hc71_33).1 ?_
                            show Steps p.tables e below (s₁.setTop (mkF m 74 #[.val (.int p2_0)] [])) _
                            refine XS.iloadN X0.here hx rfl (hb hby d2_74) rfl ?_
                            show Steps p.tables e below (s₁.setTop (mkF m 75 #[.val (.int p2_0)] [(.int p2_0)])) _
                            refine XS.bipush X0.here hx rfl (hb hby d2_75) ?_
                            exact k
                          by_cases hc77_36 : p2_0 = (47 : Int32)
                          · skip
                            have k37 : ∀ t, Steps p.tables e below (s₁.setTop (mkF m 109 #[.val (.int p2_0)] [(.int (0 : Int32))])) t → Steps p.tables e below (s₁.setTop (entryFrame m #[(.int p2_0)] 1)) t := by
                              intro t k
                              refine k35 t ?_
                              show Steps p.tables e below (s₁.setTop (mkF m 77 #[.val (.int p2_0)] [(.int (47 : Int32)), (.int p2_0)])) _
                              refine XS.icmpYes X0.here hx rfl (pc0 := 77) (pc' := 108) rfl (hb hby d2_77) rfl (teq hc77_36).1 (by decide) (by decide) ?_
                              show Steps p.tables e below (s₁.setTop (mkF m 108 #[.val (.int p2_0)] [])) _
                              refine XS.iconst X0.here hx rfl (hb hby d2_108) ?_
                              exact k
                            obtain ⟨fs, hr, hrun, hended, hW, hsame⟩ := X0.leave (v := some (.int (0 : Int32))) (fun h => by rw [Bd.returns] at h; cases h)
                            refine ⟨_, _, k37 _ ?_, hrun, hended, _, _, rfl, ?_, ⟨_, rfl⟩, hW, hsame.mono (by decide) (by decide)⟩
                            · exact retN X0 hx (t := .boolean) Bd.returns (by simp) (hb hby d2_109) hr
                            · show Q2 Z p2_0 h0 n0 _ s₁.heap _
                              rw [e0]
                              exact ⟨congrArg (fun z => some (Value.int z)) (show ((0 : Int32) : Int32) = own_ref p2_0 from by unfold own_ref; rw [if_pos hc3_2, if_pos hc9_4, if_neg hc17_6, if_neg hc23_9, if_neg hc29_12, if_neg hc35_15, if_neg hc41_18, if_neg hc47_21, if_neg hc53_24, if_neg hc59_27, if_neg hc65_30, if_neg hc71_33, if_pos hc77_36]), N0, rfl⟩
                          · skip
                            have k38 : ∀ t, Steps p.tables e below (s₁.setTop (mkF m 83 #[.val (.int p2_0)] [(.int (91 : Int32)), (.int p2_0)])) t → Steps p.tables e below (s₁.setTop (entryFrame m #[(.int p2_0)] 1)) t := by
                              intro t k
                              refine k35 t ?_
                              show Steps p.tables e below (s₁.setTop (mkF m 77 #[.val (.int p2_0)] [(.int (47 : Int32)), (.int p2_0)])) _
                              refine XS.icmpNo X0.here hx rfl (hb hby d2_77) rfl (feq hc77_36).1 ?_
                              show Steps p.tables e below (s₁.setTop (mkF m 80 #[.val (.int p2_0)] [])) _
                              refine XS.iloadN X0.here hx rfl (hb hby d2_80) rfl ?_
                              show Steps p.tables e below (s₁.setTop (mkF m 81 #[.val (.int p2_0)] [(.int p2_0)])) _
                              refine XS.bipush X0.here hx rfl (hb hby d2_81) ?_
                              exact k
                            by_cases hc83_39 : p2_0 = (91 : Int32)
                            · skip
                              have k40 : ∀ t, Steps p.tables e below (s₁.setTop (mkF m 109 #[.val (.int p2_0)] [(.int (0 : Int32))])) t → Steps p.tables e below (s₁.setTop (entryFrame m #[(.int p2_0)] 1)) t := by
                                intro t k
                                refine k38 t ?_
                                show Steps p.tables e below (s₁.setTop (mkF m 83 #[.val (.int p2_0)] [(.int (91 : Int32)), (.int p2_0)])) _
                                refine XS.icmpYes X0.here hx rfl (pc0 := 83) (pc' := 108) rfl (hb hby d2_83) rfl (teq hc83_39).1 (by decide) (by decide) ?_
                                show Steps p.tables e below (s₁.setTop (mkF m 108 #[.val (.int p2_0)] [])) _
                                refine XS.iconst X0.here hx rfl (hb hby d2_108) ?_
                                exact k
                              obtain ⟨fs, hr, hrun, hended, hW, hsame⟩ := X0.leave (v := some (.int (0 : Int32))) (fun h => by rw [Bd.returns] at h; cases h)
                              refine ⟨_, _, k40 _ ?_, hrun, hended, _, _, rfl, ?_, ⟨_, rfl⟩, hW, hsame.mono (by decide) (by decide)⟩
                              · exact retN X0 hx (t := .boolean) Bd.returns (by simp) (hb hby d2_109) hr
                              · show Q2 Z p2_0 h0 n0 _ s₁.heap _
                                rw [e0]
                                exact ⟨congrArg (fun z => some (Value.int z)) (show ((0 : Int32) : Int32) = own_ref p2_0 from by unfold own_ref; rw [if_pos hc3_2, if_pos hc9_4, if_neg hc17_6, if_neg hc23_9, if_neg hc29_12, if_neg hc35_15, if_neg hc41_18, if_neg hc47_21, if_neg hc53_24, if_neg hc59_27, if_neg hc65_30, if_neg hc71_33, if_neg hc77_36, if_pos hc83_39]), N0, rfl⟩
                            · skip
                              have k41 : ∀ t, Steps p.tables e below (s₁.setTop (mkF m 89 #[.val (.int p2_0)] [(.int (93 : Int32)), (.int p2_0)])) t → Steps p.tables e below (s₁.setTop (entryFrame m #[(.int p2_0)] 1)) t := by
                                intro t k
                                refine k38 t ?_
                                show Steps p.tables e below (s₁.setTop (mkF m 83 #[.val (.int p2_0)] [(.int (91 : Int32)), (.int p2_0)])) _
                                refine XS.icmpNo X0.here hx rfl (hb hby d2_83) rfl (feq hc83_39).1 ?_
                                show Steps p.tables e below (s₁.setTop (mkF m 86 #[.val (.int p2_0)] [])) _
                                refine XS.iloadN X0.here hx rfl (hb hby d2_86) rfl ?_
                                show Steps p.tables e below (s₁.setTop (mkF m 87 #[.val (.int p2_0)] [(.int p2_0)])) _
                                refine XS.bipush X0.here hx rfl (hb hby d2_87) ?_
                                exact k
                              by_cases hc89_42 : p2_0 = (93 : Int32)
                              · skip
                                have k43 : ∀ t, Steps p.tables e below (s₁.setTop (mkF m 109 #[.val (.int p2_0)] [(.int (0 : Int32))])) t → Steps p.tables e below (s₁.setTop (entryFrame m #[(.int p2_0)] 1)) t := by
                                  intro t k
                                  refine k41 t ?_
                                  show Steps p.tables e below (s₁.setTop (mkF m 89 #[.val (.int p2_0)] [(.int (93 : Int32)), (.int p2_0)])) _
                                  refine XS.icmpYes X0.here hx rfl (pc0 := 89) (pc' := 108) rfl (hb hby d2_89) rfl (teq hc89_42).1 (by decide) (by decide) ?_
                                  show Steps p.tables e below (s₁.setTop (mkF m 108 #[.val (.int p2_0)] [])) _
                                  refine XS.iconst X0.here hx rfl (hb hby d2_108) ?_
                                  exact k
                                obtain ⟨fs, hr, hrun, hended, hW, hsame⟩ := X0.leave (v := some (.int (0 : Int32))) (fun h => by rw [Bd.returns] at h; cases h)
                                refine ⟨_, _, k43 _ ?_, hrun, hended, _, _, rfl, ?_, ⟨_, rfl⟩, hW, hsame.mono (by decide) (by decide)⟩
                                · exact retN X0 hx (t := .boolean) Bd.returns (by simp) (hb hby d2_109) hr
                                · show Q2 Z p2_0 h0 n0 _ s₁.heap _
                                  rw [e0]
                                  exact ⟨congrArg (fun z => some (Value.int z)) (show ((0 : Int32) : Int32) = own_ref p2_0 from by unfold own_ref; rw [if_pos hc3_2, if_pos hc9_4, if_neg hc17_6, if_neg hc23_9, if_neg hc29_12, if_neg hc35_15, if_neg hc41_18, if_neg hc47_21, if_neg hc53_24, if_neg hc59_27, if_neg hc65_30, if_neg hc71_33, if_neg hc77_36, if_neg hc83_39, if_pos hc89_42]), N0, rfl⟩
                              · skip
                                have k44 : ∀ t, Steps p.tables e below (s₁.setTop (mkF m 95 #[.val (.int p2_0)] [(.int (63 : Int32)), (.int p2_0)])) t → Steps p.tables e below (s₁.setTop (entryFrame m #[(.int p2_0)] 1)) t := by
                                  intro t k
                                  refine k41 t ?_
                                  show Steps p.tables e below (s₁.setTop (mkF m 89 #[.val (.int p2_0)] [(.int (93 : Int32)), (.int p2_0)])) _
                                  refine XS.icmpNo X0.here hx rfl (hb hby d2_89) rfl (feq hc89_42).1 ?_
                                  show Steps p.tables e below (s₁.setTop (mkF m 92 #[.val (.int p2_0)] [])) _
                                  refine XS.iloadN X0.here hx rfl (hb hby d2_92) rfl ?_
                                  show Steps p.tables e below (s₁.setTop (mkF m 93 #[.val (.int p2_0)] [(.int p2_0)])) _
                                  refine XS.bipush X0.here hx rfl (hb hby d2_93) ?_
                                  exact k
                                by_cases hc95_45 : p2_0 = (63 : Int32)
                                · skip
                                  have k46 : ∀ t, Steps p.tables e below (s₁.setTop (mkF m 109 #[.val (.int p2_0)] [(.int (0 : Int32))])) t → Steps p.tables e below (s₁.setTop (entryFrame m #[(.int p2_0)] 1)) t := by
                                    intro t k
                                    refine k44 t ?_
                                    show Steps p.tables e below (s₁.setTop (mkF m 95 #[.val (.int p2_0)] [(.int (63 : Int32)), (.int p2_0)])) _
                                    refine XS.icmpYes X0.here hx rfl (pc0 := 95) (pc' := 108) rfl (hb hby d2_95) rfl (teq hc95_45).1 (by decide) (by decide) ?_
                                    show Steps p.tables e below (s₁.setTop (mkF m 108 #[.val (.int p2_0)] [])) _
                                    refine XS.iconst X0.here hx rfl (hb hby d2_108) ?_
                                    exact k
                                  obtain ⟨fs, hr, hrun, hended, hW, hsame⟩ := X0.leave (v := some (.int (0 : Int32))) (fun h => by rw [Bd.returns] at h; cases h)
                                  refine ⟨_, _, k46 _ ?_, hrun, hended, _, _, rfl, ?_, ⟨_, rfl⟩, hW, hsame.mono (by decide) (by decide)⟩
                                  · exact retN X0 hx (t := .boolean) Bd.returns (by simp) (hb hby d2_109) hr
                                  · show Q2 Z p2_0 h0 n0 _ s₁.heap _
                                    rw [e0]
                                    exact ⟨congrArg (fun z => some (Value.int z)) (show ((0 : Int32) : Int32) = own_ref p2_0 from by unfold own_ref; rw [if_pos hc3_2, if_pos hc9_4, if_neg hc17_6, if_neg hc23_9, if_neg hc29_12, if_neg hc35_15, if_neg hc41_18, if_neg hc47_21, if_neg hc53_24, if_neg hc59_27, if_neg hc65_30, if_neg hc71_33, if_neg hc77_36, if_neg hc83_39, if_neg hc89_42, if_pos hc95_45]), N0, rfl⟩
                                · skip
                                  have k47 : ∀ t, Steps p.tables e below (s₁.setTop (mkF m 101 #[.val (.int p2_0)] [(.int (61 : Int32)), (.int p2_0)])) t → Steps p.tables e below (s₁.setTop (entryFrame m #[(.int p2_0)] 1)) t := by
                                    intro t k
                                    refine k44 t ?_
                                    show Steps p.tables e below (s₁.setTop (mkF m 95 #[.val (.int p2_0)] [(.int (63 : Int32)), (.int p2_0)])) _
                                    refine XS.icmpNo X0.here hx rfl (hb hby d2_95) rfl (feq hc95_45).1 ?_
                                    show Steps p.tables e below (s₁.setTop (mkF m 98 #[.val (.int p2_0)] [])) _
                                    refine XS.iloadN X0.here hx rfl (hb hby d2_98) rfl ?_
                                    show Steps p.tables e below (s₁.setTop (mkF m 99 #[.val (.int p2_0)] [(.int p2_0)])) _
                                    refine XS.bipush X0.here hx rfl (hb hby d2_99) ?_
                                    exact k
                                  by_cases hc101_48 : p2_0 = (61 : Int32)
                                  · skip
                                    have k49 : ∀ t, Steps p.tables e below (s₁.setTop (mkF m 109 #[.val (.int p2_0)] [(.int (0 : Int32))])) t → Steps p.tables e below (s₁.setTop (entryFrame m #[(.int p2_0)] 1)) t := by
                                      intro t k
                                      refine k47 t ?_
                                      show Steps p.tables e below (s₁.setTop (mkF m 101 #[.val (.int p2_0)] [(.int (61 : Int32)), (.int p2_0)])) _
                                      refine XS.icmpYes X0.here hx rfl (pc0 := 101) (pc' := 108) rfl (hb hby d2_101) rfl (teq hc101_48).1 (by decide) (by decide) ?_
                                      show Steps p.tables e below (s₁.setTop (mkF m 108 #[.val (.int p2_0)] [])) _
                                      refine XS.iconst X0.here hx rfl (hb hby d2_108) ?_
                                      exact k
                                    obtain ⟨fs, hr, hrun, hended, hW, hsame⟩ := X0.leave (v := some (.int (0 : Int32))) (fun h => by rw [Bd.returns] at h; cases h)
                                    refine ⟨_, _, k49 _ ?_, hrun, hended, _, _, rfl, ?_, ⟨_, rfl⟩, hW, hsame.mono (by decide) (by decide)⟩
                                    · exact retN X0 hx (t := .boolean) Bd.returns (by simp) (hb hby d2_109) hr
                                    · show Q2 Z p2_0 h0 n0 _ s₁.heap _
                                      rw [e0]
                                      exact ⟨congrArg (fun z => some (Value.int z)) (show ((0 : Int32) : Int32) = own_ref p2_0 from by unfold own_ref; rw [if_pos hc3_2, if_pos hc9_4, if_neg hc17_6, if_neg hc23_9, if_neg hc29_12, if_neg hc35_15, if_neg hc41_18, if_neg hc47_21, if_neg hc53_24, if_neg hc59_27, if_neg hc65_30, if_neg hc71_33, if_neg hc77_36, if_neg hc83_39, if_neg hc89_42, if_neg hc95_45, if_pos hc101_48]), N0, rfl⟩
                                  · skip
                                    have k50 : ∀ t, Steps p.tables e below (s₁.setTop (mkF m 109 #[.val (.int p2_0)] [(.int (1 : Int32))])) t → Steps p.tables e below (s₁.setTop (entryFrame m #[(.int p2_0)] 1)) t := by
                                      intro t k
                                      refine k47 t ?_
                                      show Steps p.tables e below (s₁.setTop (mkF m 101 #[.val (.int p2_0)] [(.int (61 : Int32)), (.int p2_0)])) _
                                      refine XS.icmpNo X0.here hx rfl (hb hby d2_101) rfl (feq hc101_48).1 ?_
                                      show Steps p.tables e below (s₁.setTop (mkF m 104 #[.val (.int p2_0)] [])) _
                                      refine XS.iconst X0.here hx rfl (hb hby d2_104) ?_
                                      show Steps p.tables e below (s₁.setTop (mkF m 105 #[.val (.int p2_0)] [(.int (1 : Int32))])) _
                                      refine XS.goto X0.here hx rfl (pc0 := 105) (pc' := 109) rfl (hb hby d2_105) (by decide) (by decide) ?_
                                      exact k
                                    obtain ⟨fs, hr, hrun, hended, hW, hsame⟩ := X0.leave (v := some (.int (1 : Int32))) (fun h => by rw [Bd.returns] at h; cases h)
                                    refine ⟨_, _, k50 _ ?_, hrun, hended, _, _, rfl, ?_, ⟨_, rfl⟩, hW, hsame.mono (by decide) (by decide)⟩
                                    · exact retN X0 hx (t := .boolean) Bd.returns (by simp) (hb hby d2_109) hr
                                    · show Q2 Z p2_0 h0 n0 _ s₁.heap _
                                      rw [e0]
                                      exact ⟨congrArg (fun z => some (Value.int z)) (show ((1 : Int32) : Int32) = own_ref p2_0 from by unfold own_ref; rw [if_pos hc3_2, if_pos hc9_4, if_neg hc17_6, if_neg hc23_9, if_neg hc29_12, if_neg hc35_15, if_neg hc41_18, if_neg hc47_21, if_neg hc53_24, if_neg hc59_27, if_neg hc65_30, if_neg hc71_33, if_neg hc77_36, if_neg hc83_39, if_neg hc89_42, if_neg hc95_45, if_neg hc101_48]), N0, rfl⟩
    · skip
      have k51 : ∀ t, Steps p.tables e below (s₁.setTop (mkF m 13 #[.val (.int p2_0)] [(.int (0 : Int32))])) t → Steps p.tables e below (s₁.setTop (entryFrame m #[(.int p2_0)] 1)) t := by
        intro t k
        refine k3 t ?_
        show Steps p.tables e below (s₁.setTop (mkF m 9 #[.val (.int p2_0)] [(.int (127 : Int32)), (.int p2_0)])) _
        refine XS.icmpNo X0.here hx rfl (hb hby d2_9) rfl (flt hc9_4).1 ?_
        show Steps p.tables e below (s₁.setTop (mkF m 12 #[.val (.int p2_0)] [])) _
        refine XS.iconst X0.here hx rfl (hb hby d2_12) ?_
        exact k
      obtain ⟨fs, hr, hrun, hended, hW, hsame⟩ := X0.leave (v := some (.int (0 : Int32))) (fun h => by rw [Bd.returns] at h; cases h)
      refine ⟨_, _, k51 _ ?_, hrun, hended, _, _, rfl, ?_, ⟨_, rfl⟩, hW, hsame.mono (by decide) (by decide)⟩
      · exact retN X0 hx (t := .boolean) Bd.returns (by simp) (hb hby d2_13) hr
      · show Q2 Z p2_0 h0 n0 _ s₁.heap _
        rw [e0]
        exact ⟨congrArg (fun z => some (Value.int z)) (show ((0 : Int32) : Int32) = own_ref p2_0 from by unfold own_ref; rw [if_pos hc3_2, if_neg hc9_4]), N0, rfl⟩
  · skip
    have k52 : ∀ t, Steps p.tables e below (s₁.setTop (mkF m 13 #[.val (.int p2_0)] [(.int (0 : Int32))])) t → Steps p.tables e below (s₁.setTop (entryFrame m #[(.int p2_0)] 1)) t := by
      intro t k
      refine k1 t ?_
      show Steps p.tables e below (s₁.setTop (mkF m 3 #[.val (.int p2_0)] [(.int (32 : Int32)), (.int p2_0)])) _
      refine XS.icmpYes X0.here hx rfl (pc0 := 3) (pc' := 12) rfl (hb hby d2_3) rfl (flt hc3_2).2.2.2 (by decide) (by decide) ?_
      show Steps p.tables e below (s₁.setTop (mkF m 12 #[.val (.int p2_0)] [])) _
      refine XS.iconst X0.here hx rfl (hb hby d2_12) ?_
      exact k
    obtain ⟨fs, hr, hrun, hended, hW, hsame⟩ := X0.leave (v := some (.int (0 : Int32))) (fun h => by rw [Bd.returns] at h; cases h)
    refine ⟨_, _, k52 _ ?_, hrun, hended, _, _, rfl, ?_, ⟨_, rfl⟩, hW, hsame.mono (by decide) (by decide)⟩
    · exact retN X0 hx (t := .boolean) Bd.returns (by simp) (hb hby d2_13) hr
    · show Q2 Z p2_0 h0 n0 _ s₁.heap _
      rw [e0]
      exact ⟨congrArg (fun z => some (Value.int z)) (show ((0 : Int32) : Int32) = own_ref p2_0 from by unfold own_ref; rw [if_neg hc3_2]), N0, rfl⟩
theorem own_subf {args : Array Value} {s : State} {a b : Term} {idx : List Nat} {x y : Int32} (ha : a.eval args s none idx s = some (.int x)) (hb : b.eval args s none idx s = some (.int y)) : (Term.sub a b).eval args s none idx s = some (.int (x - y)) := by simp [Term.eval, ha, hb]
theorem own_i2lf {args : Array Value} {s : State} {a : Term} {idx : List Nat} {x : Int32} (ha : a.eval args s none idx s = some (.int x)) : (Term.op1 .i2l a).eval args s none idx s = some (.long x.toInt64) := op1_f ha
theorem own_laddf {args : Array Value} {s : State} {a b : Term} {idx : List Nat} {x y : Int64} (ha : a.eval args s none idx s = some (.long x)) (hb : b.eval args s none idx s = some (.long y)) : (Term.op2 .ladd a b).eval args s none idx s = some (.long (x + y)) := op2_f ha hb

def own_refI (p2_0 : Int) : Int32 := (if (32 : Int) < p2_0 then (if p2_0 < (127 : Int) then (if p2_0 = (40 : Int) then (0 : Int32) else (if p2_0 = (41 : Int) then (0 : Int32) else (if p2_0 = (60 : Int) then (0 : Int32) else (if p2_0 = (62 : Int) then (0 : Int32) else (if p2_0 = (64 : Int) then (0 : Int32) else (if p2_0 = (44 : Int) then (0 : Int32) else (if p2_0 = (59 : Int) then (0 : Int32) else (if p2_0 = (58 : Int) then (0 : Int32) else (if p2_0 = (92 : Int) then (0 : Int32) else (if p2_0 = (34 : Int) then (0 : Int32) else (if p2_0 = (47 : Int) then (0 : Int32) else (if p2_0 = (91 : Int) then (0 : Int32) else (if p2_0 = (93 : Int) then (0 : Int32) else (if p2_0 = (63 : Int) then (0 : Int32) else (if p2_0 = (61 : Int) then (0 : Int32) else (1 : Int32)))))))))))))))) else (0 : Int32)) else (0 : Int32))
theorem own_refi (j : Int32) : own_ref j = own_refI j.toInt := by
  unfold own_ref own_refI; simp only [own_lt, own_eqi, Int32.reduceToInt]
set_option maxHeartbeats 4000000 in
theorem own_plain (j v : Int32) (h0 : ¬ j < 0) (h1 : j < 128) (f0 : (33 : Int32) ≤ j ∨ v = (0 : Int32)) (f1 : ¬ j = (33 : Int32) ∨ v = (1 : Int32)) (f2 : ¬ j = (34 : Int32) ∨ v = (0 : Int32)) (f3 : j < (35 : Int32) ∨ ¬ j < (40 : Int32) ∨ v = (1 : Int32)) (f4 : ¬ j = (40 : Int32) ∨ v = (0 : Int32)) (f5 : ¬ j = (41 : Int32) ∨ v = (0 : Int32)) (f6 : ¬ j = (42 : Int32) ∨ v = (1 : Int32)) (f7 : ¬ j = (43 : Int32) ∨ v = (1 : Int32)) (f8 : ¬ j = (44 : Int32) ∨ v = (0 : Int32)) (f9 : ¬ j = (45 : Int32) ∨ v = (1 : Int32)) (f10 : ¬ j = (46 : Int32) ∨ v = (1 : Int32)) (f11 : ¬ j = (47 : Int32) ∨ v = (0 : Int32)) (f12 : j < (48 : Int32) ∨ ¬ j < (58 : Int32) ∨ v = (1 : Int32)) (f13 : j < (58 : Int32) ∨ ¬ j < (65 : Int32) ∨ v = (0 : Int32)) (f14 : j < (65 : Int32) ∨ ¬ j < (91 : Int32) ∨ v = (1 : Int32)) (f15 : ¬ j = (91 : Int32) ∨ v = (0 : Int32)) (f16 : ¬ j = (92 : Int32) ∨ v = (0 : Int32)) (f17 : ¬ j = (93 : Int32) ∨ v = (0 : Int32)) (f18 : j < (94 : Int32) ∨ ¬ j < (127 : Int32) ∨ v = (1 : Int32)) (f19 : ¬ j = (127 : Int32) ∨ v = (0 : Int32)) : (if v = (0 : Int32) then (0 : Int32) else 1) = own_ref j := by
  rw [own_lt, show (0 : Int32).toInt = 0 from rfl] at h0
  rw [own_lt, show (128 : Int32).toInt = 128 from rfl] at h1
  by_cases q0 : j.toInt < 33
  · have hb0 : ¬ j.toInt < 0 := h0
    have hb1 := q0
    have hv : v.toInt = 0 := by
      clear f1 f2 f3 f4 f5 f6 f7 f8 f9 f10 f11 f12 f13 f14 f15 f16 f17 f18 f19
      simp only [own_lt, own_le, own_eqi, own_eqL, c_i2l, Int32.reduceToInt, Int64.reduceToInt] at *
      omega
    clear f0 f1 f2 f3 f4 f5 f6 f7 f8 f9 f10 f11 f12 f13 f14 f15 f16 f17 f18 f19
    have hw : v = (0 : Int32) := by rw [own_eqi]; exact hv
    subst hw
    rw [if_pos rfl, own_refi]; unfold own_refI
    rw [if_neg (by omega)]
  by_cases q1 : j.toInt < 34
  · have hb0 : ¬ j.toInt < 33 := q0
    have hb1 := q1
    have hv : v.toInt = 1 := by
      clear f0 f2 f3 f4 f5 f6 f7 f8 f9 f10 f11 f12 f13 f14 f15 f16 f17 f18 f19
      simp only [own_lt, own_le, own_eqi, own_eqL, c_i2l, Int32.reduceToInt, Int64.reduceToInt] at *
      omega
    clear f0 f1 f2 f3 f4 f5 f6 f7 f8 f9 f10 f11 f12 f13 f14 f15 f16 f17 f18 f19
    have hw : v = (1 : Int32) := by rw [own_eqi]; exact hv
    subst hw
    rw [if_neg (by decide), own_refi]; unfold own_refI
    rw [if_pos (by omega), if_pos (by omega), if_neg (by omega), if_neg (by omega), if_neg (by omega), if_neg (by omega), if_neg (by omega), if_neg (by omega), if_neg (by omega), if_neg (by omega), if_neg (by omega), if_neg (by omega), if_neg (by omega), if_neg (by omega), if_neg (by omega), if_neg (by omega), if_neg (by omega)]
  by_cases q2 : j.toInt < 35
  · have hb0 : ¬ j.toInt < 34 := q1
    have hb1 := q2
    have hv : v.toInt = 0 := by
      clear f0 f1 f3 f4 f5 f6 f7 f8 f9 f10 f11 f12 f13 f14 f15 f16 f17 f18 f19
      simp only [own_lt, own_le, own_eqi, own_eqL, c_i2l, Int32.reduceToInt, Int64.reduceToInt] at *
      omega
    clear f0 f1 f2 f3 f4 f5 f6 f7 f8 f9 f10 f11 f12 f13 f14 f15 f16 f17 f18 f19
    have hw : v = (0 : Int32) := by rw [own_eqi]; exact hv
    subst hw
    rw [if_pos rfl, own_refi]; unfold own_refI
    rw [if_pos (by omega), if_pos (by omega), if_neg (by omega), if_neg (by omega), if_neg (by omega), if_neg (by omega), if_neg (by omega), if_neg (by omega), if_neg (by omega), if_neg (by omega), if_neg (by omega), if_pos (by omega)]
  by_cases q3 : j.toInt < 40
  · have hb0 : ¬ j.toInt < 35 := q2
    have hb1 := q3
    have hv : v.toInt = 1 := by
      clear f0 f1 f2 f4 f5 f6 f7 f8 f9 f10 f11 f12 f13 f14 f15 f16 f17 f18 f19
      simp only [own_lt, own_le, own_eqi, own_eqL, c_i2l, Int32.reduceToInt, Int64.reduceToInt] at *
      omega
    clear f0 f1 f2 f3 f4 f5 f6 f7 f8 f9 f10 f11 f12 f13 f14 f15 f16 f17 f18 f19
    have hw : v = (1 : Int32) := by rw [own_eqi]; exact hv
    subst hw
    rw [if_neg (by decide), own_refi]; unfold own_refI
    rw [if_pos (by omega), if_pos (by omega), if_neg (by omega), if_neg (by omega), if_neg (by omega), if_neg (by omega), if_neg (by omega), if_neg (by omega), if_neg (by omega), if_neg (by omega), if_neg (by omega), if_neg (by omega), if_neg (by omega), if_neg (by omega), if_neg (by omega), if_neg (by omega), if_neg (by omega)]
  by_cases q4 : j.toInt < 41
  · have hb0 : ¬ j.toInt < 40 := q3
    have hb1 := q4
    have hv : v.toInt = 0 := by
      clear f0 f1 f2 f3 f5 f6 f7 f8 f9 f10 f11 f12 f13 f14 f15 f16 f17 f18 f19
      simp only [own_lt, own_le, own_eqi, own_eqL, c_i2l, Int32.reduceToInt, Int64.reduceToInt] at *
      omega
    clear f0 f1 f2 f3 f4 f5 f6 f7 f8 f9 f10 f11 f12 f13 f14 f15 f16 f17 f18 f19
    have hw : v = (0 : Int32) := by rw [own_eqi]; exact hv
    subst hw
    rw [if_pos rfl, own_refi]; unfold own_refI
    rw [if_pos (by omega), if_pos (by omega), if_pos (by omega)]
  by_cases q5 : j.toInt < 42
  · have hb0 : ¬ j.toInt < 41 := q4
    have hb1 := q5
    have hv : v.toInt = 0 := by
      clear f0 f1 f2 f3 f4 f6 f7 f8 f9 f10 f11 f12 f13 f14 f15 f16 f17 f18 f19
      simp only [own_lt, own_le, own_eqi, own_eqL, c_i2l, Int32.reduceToInt, Int64.reduceToInt] at *
      omega
    clear f0 f1 f2 f3 f4 f5 f6 f7 f8 f9 f10 f11 f12 f13 f14 f15 f16 f17 f18 f19
    have hw : v = (0 : Int32) := by rw [own_eqi]; exact hv
    subst hw
    rw [if_pos rfl, own_refi]; unfold own_refI
    rw [if_pos (by omega), if_pos (by omega), if_neg (by omega), if_pos (by omega)]
  by_cases q6 : j.toInt < 43
  · have hb0 : ¬ j.toInt < 42 := q5
    have hb1 := q6
    have hv : v.toInt = 1 := by
      clear f0 f1 f2 f3 f4 f5 f7 f8 f9 f10 f11 f12 f13 f14 f15 f16 f17 f18 f19
      simp only [own_lt, own_le, own_eqi, own_eqL, c_i2l, Int32.reduceToInt, Int64.reduceToInt] at *
      omega
    clear f0 f1 f2 f3 f4 f5 f6 f7 f8 f9 f10 f11 f12 f13 f14 f15 f16 f17 f18 f19
    have hw : v = (1 : Int32) := by rw [own_eqi]; exact hv
    subst hw
    rw [if_neg (by decide), own_refi]; unfold own_refI
    rw [if_pos (by omega), if_pos (by omega), if_neg (by omega), if_neg (by omega), if_neg (by omega), if_neg (by omega), if_neg (by omega), if_neg (by omega), if_neg (by omega), if_neg (by omega), if_neg (by omega), if_neg (by omega), if_neg (by omega), if_neg (by omega), if_neg (by omega), if_neg (by omega), if_neg (by omega)]
  by_cases q7 : j.toInt < 44
  · have hb0 : ¬ j.toInt < 43 := q6
    have hb1 := q7
    have hv : v.toInt = 1 := by
      clear f0 f1 f2 f3 f4 f5 f6 f8 f9 f10 f11 f12 f13 f14 f15 f16 f17 f18 f19
      simp only [own_lt, own_le, own_eqi, own_eqL, c_i2l, Int32.reduceToInt, Int64.reduceToInt] at *
      omega
    clear f0 f1 f2 f3 f4 f5 f6 f7 f8 f9 f10 f11 f12 f13 f14 f15 f16 f17 f18 f19
    have hw : v = (1 : Int32) := by rw [own_eqi]; exact hv
    subst hw
    rw [if_neg (by decide), own_refi]; unfold own_refI
    rw [if_pos (by omega), if_pos (by omega), if_neg (by omega), if_neg (by omega), if_neg (by omega), if_neg (by omega), if_neg (by omega), if_neg (by omega), if_neg (by omega), if_neg (by omega), if_neg (by omega), if_neg (by omega), if_neg (by omega), if_neg (by omega), if_neg (by omega), if_neg (by omega), if_neg (by omega)]
  by_cases q8 : j.toInt < 45
  · have hb0 : ¬ j.toInt < 44 := q7
    have hb1 := q8
    have hv : v.toInt = 0 := by
      clear f0 f1 f2 f3 f4 f5 f6 f7 f9 f10 f11 f12 f13 f14 f15 f16 f17 f18 f19
      simp only [own_lt, own_le, own_eqi, own_eqL, c_i2l, Int32.reduceToInt, Int64.reduceToInt] at *
      omega
    clear f0 f1 f2 f3 f4 f5 f6 f7 f8 f9 f10 f11 f12 f13 f14 f15 f16 f17 f18 f19
    have hw : v = (0 : Int32) := by rw [own_eqi]; exact hv
    subst hw
    rw [if_pos rfl, own_refi]; unfold own_refI
    rw [if_pos (by omega), if_pos (by omega), if_neg (by omega), if_neg (by omega), if_neg (by omega), if_neg (by omega), if_neg (by omega), if_pos (by omega)]
  by_cases q9 : j.toInt < 46
  · have hb0 : ¬ j.toInt < 45 := q8
    have hb1 := q9
    have hv : v.toInt = 1 := by
      clear f0 f1 f2 f3 f4 f5 f6 f7 f8 f10 f11 f12 f13 f14 f15 f16 f17 f18 f19
      simp only [own_lt, own_le, own_eqi, own_eqL, c_i2l, Int32.reduceToInt, Int64.reduceToInt] at *
      omega
    clear f0 f1 f2 f3 f4 f5 f6 f7 f8 f9 f10 f11 f12 f13 f14 f15 f16 f17 f18 f19
    have hw : v = (1 : Int32) := by rw [own_eqi]; exact hv
    subst hw
    rw [if_neg (by decide), own_refi]; unfold own_refI
    rw [if_pos (by omega), if_pos (by omega), if_neg (by omega), if_neg (by omega), if_neg (by omega), if_neg (by omega), if_neg (by omega), if_neg (by omega), if_neg (by omega), if_neg (by omega), if_neg (by omega), if_neg (by omega), if_neg (by omega), if_neg (by omega), if_neg (by omega), if_neg (by omega), if_neg (by omega)]
  by_cases q10 : j.toInt < 47
  · have hb0 : ¬ j.toInt < 46 := q9
    have hb1 := q10
    have hv : v.toInt = 1 := by
      clear f0 f1 f2 f3 f4 f5 f6 f7 f8 f9 f11 f12 f13 f14 f15 f16 f17 f18 f19
      simp only [own_lt, own_le, own_eqi, own_eqL, c_i2l, Int32.reduceToInt, Int64.reduceToInt] at *
      omega
    clear f0 f1 f2 f3 f4 f5 f6 f7 f8 f9 f10 f11 f12 f13 f14 f15 f16 f17 f18 f19
    have hw : v = (1 : Int32) := by rw [own_eqi]; exact hv
    subst hw
    rw [if_neg (by decide), own_refi]; unfold own_refI
    rw [if_pos (by omega), if_pos (by omega), if_neg (by omega), if_neg (by omega), if_neg (by omega), if_neg (by omega), if_neg (by omega), if_neg (by omega), if_neg (by omega), if_neg (by omega), if_neg (by omega), if_neg (by omega), if_neg (by omega), if_neg (by omega), if_neg (by omega), if_neg (by omega), if_neg (by omega)]
  by_cases q11 : j.toInt < 48
  · have hb0 : ¬ j.toInt < 47 := q10
    have hb1 := q11
    have hv : v.toInt = 0 := by
      clear f0 f1 f2 f3 f4 f5 f6 f7 f8 f9 f10 f12 f13 f14 f15 f16 f17 f18 f19
      simp only [own_lt, own_le, own_eqi, own_eqL, c_i2l, Int32.reduceToInt, Int64.reduceToInt] at *
      omega
    clear f0 f1 f2 f3 f4 f5 f6 f7 f8 f9 f10 f11 f12 f13 f14 f15 f16 f17 f18 f19
    have hw : v = (0 : Int32) := by rw [own_eqi]; exact hv
    subst hw
    rw [if_pos rfl, own_refi]; unfold own_refI
    rw [if_pos (by omega), if_pos (by omega), if_neg (by omega), if_neg (by omega), if_neg (by omega), if_neg (by omega), if_neg (by omega), if_neg (by omega), if_neg (by omega), if_neg (by omega), if_neg (by omega), if_neg (by omega), if_pos (by omega)]
  by_cases q12 : j.toInt < 58
  · have hb0 : ¬ j.toInt < 48 := q11
    have hb1 := q12
    have hv : v.toInt = 1 := by
      clear f0 f1 f2 f3 f4 f5 f6 f7 f8 f9 f10 f11 f13 f14 f15 f16 f17 f18 f19
      simp only [own_lt, own_le, own_eqi, own_eqL, c_i2l, Int32.reduceToInt, Int64.reduceToInt] at *
      omega
    clear f0 f1 f2 f3 f4 f5 f6 f7 f8 f9 f10 f11 f12 f13 f14 f15 f16 f17 f18 f19
    have hw : v = (1 : Int32) := by rw [own_eqi]; exact hv
    subst hw
    rw [if_neg (by decide), own_refi]; unfold own_refI
    rw [if_pos (by omega), if_pos (by omega), if_neg (by omega), if_neg (by omega), if_neg (by omega), if_neg (by omega), if_neg (by omega), if_neg (by omega), if_neg (by omega), if_neg (by omega), if_neg (by omega), if_neg (by omega), if_neg (by omega), if_neg (by omega), if_neg (by omega), if_neg (by omega), if_neg (by omega)]
  by_cases q13 : j.toInt < 65
  · have hb0 : ¬ j.toInt < 58 := q12
    have hb1 := q13
    have hv : v.toInt = 0 := by
      clear f0 f1 f2 f3 f4 f5 f6 f7 f8 f9 f10 f11 f12 f14 f15 f16 f17 f18 f19
      simp only [own_lt, own_le, own_eqi, own_eqL, c_i2l, Int32.reduceToInt, Int64.reduceToInt] at *
      omega
    clear f0 f1 f2 f3 f4 f5 f6 f7 f8 f9 f10 f11 f12 f13 f14 f15 f16 f17 f18 f19
    have hw : v = (0 : Int32) := by rw [own_eqi]; exact hv
    subst hw
    rw [if_pos rfl, own_refi]; unfold own_refI
    have hz : j.toInt = 58 ∨ j.toInt = 59 ∨ j.toInt = 60 ∨ j.toInt = 61 ∨ j.toInt = 62 ∨ j.toInt = 63 ∨ j.toInt = 64 := by omega
    rcases hz with hz | hz | hz | hz | hz | hz | hz
    · rw [if_pos (by omega), if_pos (by omega), if_neg (by omega), if_neg (by omega), if_neg (by omega), if_neg (by omega), if_neg (by omega), if_neg (by omega), if_neg (by omega), if_pos (by omega)]
    · rw [if_pos (by omega), if_pos (by omega), if_neg (by omega), if_neg (by omega), if_neg (by omega), if_neg (by omega), if_neg (by omega), if_neg (by omega), if_pos (by omega)]
    · rw [if_pos (by omega), if_pos (by omega), if_neg (by omega), if_neg (by omega), if_pos (by omega)]
    · rw [if_pos (by omega), if_pos (by omega), if_neg (by omega), if_neg (by omega), if_neg (by omega), if_neg (by omega), if_neg (by omega), if_neg (by omega), if_neg (by omega), if_neg (by omega), if_neg (by omega), if_neg (by omega), if_neg (by omega), if_neg (by omega), if_neg (by omega), if_neg (by omega), if_pos (by omega)]
    · rw [if_pos (by omega), if_pos (by omega), if_neg (by omega), if_neg (by omega), if_neg (by omega), if_pos (by omega)]
    · rw [if_pos (by omega), if_pos (by omega), if_neg (by omega), if_neg (by omega), if_neg (by omega), if_neg (by omega), if_neg (by omega), if_neg (by omega), if_neg (by omega), if_neg (by omega), if_neg (by omega), if_neg (by omega), if_neg (by omega), if_neg (by omega), if_neg (by omega), if_pos (by omega)]
    · rw [if_pos (by omega), if_pos (by omega), if_neg (by omega), if_neg (by omega), if_neg (by omega), if_neg (by omega), if_pos (by omega)]
  by_cases q14 : j.toInt < 91
  · have hb0 : ¬ j.toInt < 65 := q13
    have hb1 := q14
    have hv : v.toInt = 1 := by
      clear f0 f1 f2 f3 f4 f5 f6 f7 f8 f9 f10 f11 f12 f13 f15 f16 f17 f18 f19
      simp only [own_lt, own_le, own_eqi, own_eqL, c_i2l, Int32.reduceToInt, Int64.reduceToInt] at *
      omega
    clear f0 f1 f2 f3 f4 f5 f6 f7 f8 f9 f10 f11 f12 f13 f14 f15 f16 f17 f18 f19
    have hw : v = (1 : Int32) := by rw [own_eqi]; exact hv
    subst hw
    rw [if_neg (by decide), own_refi]; unfold own_refI
    rw [if_pos (by omega), if_pos (by omega), if_neg (by omega), if_neg (by omega), if_neg (by omega), if_neg (by omega), if_neg (by omega), if_neg (by omega), if_neg (by omega), if_neg (by omega), if_neg (by omega), if_neg (by omega), if_neg (by omega), if_neg (by omega), if_neg (by omega), if_neg (by omega), if_neg (by omega)]
  by_cases q15 : j.toInt < 92
  · have hb0 : ¬ j.toInt < 91 := q14
    have hb1 := q15
    have hv : v.toInt = 0 := by
      clear f0 f1 f2 f3 f4 f5 f6 f7 f8 f9 f10 f11 f12 f13 f14 f16 f17 f18 f19
      simp only [own_lt, own_le, own_eqi, own_eqL, c_i2l, Int32.reduceToInt, Int64.reduceToInt] at *
      omega
    clear f0 f1 f2 f3 f4 f5 f6 f7 f8 f9 f10 f11 f12 f13 f14 f15 f16 f17 f18 f19
    have hw : v = (0 : Int32) := by rw [own_eqi]; exact hv
    subst hw
    rw [if_pos rfl, own_refi]; unfold own_refI
    rw [if_pos (by omega), if_pos (by omega), if_neg (by omega), if_neg (by omega), if_neg (by omega), if_neg (by omega), if_neg (by omega), if_neg (by omega), if_neg (by omega), if_neg (by omega), if_neg (by omega), if_neg (by omega), if_neg (by omega), if_pos (by omega)]
  by_cases q16 : j.toInt < 93
  · have hb0 : ¬ j.toInt < 92 := q15
    have hb1 := q16
    have hv : v.toInt = 0 := by
      clear f0 f1 f2 f3 f4 f5 f6 f7 f8 f9 f10 f11 f12 f13 f14 f15 f17 f18 f19
      simp only [own_lt, own_le, own_eqi, own_eqL, c_i2l, Int32.reduceToInt, Int64.reduceToInt] at *
      omega
    clear f0 f1 f2 f3 f4 f5 f6 f7 f8 f9 f10 f11 f12 f13 f14 f15 f16 f17 f18 f19
    have hw : v = (0 : Int32) := by rw [own_eqi]; exact hv
    subst hw
    rw [if_pos rfl, own_refi]; unfold own_refI
    rw [if_pos (by omega), if_pos (by omega), if_neg (by omega), if_neg (by omega), if_neg (by omega), if_neg (by omega), if_neg (by omega), if_neg (by omega), if_neg (by omega), if_neg (by omega), if_pos (by omega)]
  by_cases q17 : j.toInt < 94
  · have hb0 : ¬ j.toInt < 93 := q16
    have hb1 := q17
    have hv : v.toInt = 0 := by
      clear f0 f1 f2 f3 f4 f5 f6 f7 f8 f9 f10 f11 f12 f13 f14 f15 f16 f18 f19
      simp only [own_lt, own_le, own_eqi, own_eqL, c_i2l, Int32.reduceToInt, Int64.reduceToInt] at *
      omega
    clear f0 f1 f2 f3 f4 f5 f6 f7 f8 f9 f10 f11 f12 f13 f14 f15 f16 f17 f18 f19
    have hw : v = (0 : Int32) := by rw [own_eqi]; exact hv
    subst hw
    rw [if_pos rfl, own_refi]; unfold own_refI
    rw [if_pos (by omega), if_pos (by omega), if_neg (by omega), if_neg (by omega), if_neg (by omega), if_neg (by omega), if_neg (by omega), if_neg (by omega), if_neg (by omega), if_neg (by omega), if_neg (by omega), if_neg (by omega), if_neg (by omega), if_neg (by omega), if_pos (by omega)]
  by_cases q18 : j.toInt < 127
  · have hb0 : ¬ j.toInt < 94 := q17
    have hb1 := q18
    have hv : v.toInt = 1 := by
      clear f0 f1 f2 f3 f4 f5 f6 f7 f8 f9 f10 f11 f12 f13 f14 f15 f16 f17 f19
      simp only [own_lt, own_le, own_eqi, own_eqL, c_i2l, Int32.reduceToInt, Int64.reduceToInt] at *
      omega
    clear f0 f1 f2 f3 f4 f5 f6 f7 f8 f9 f10 f11 f12 f13 f14 f15 f16 f17 f18 f19
    have hw : v = (1 : Int32) := by rw [own_eqi]; exact hv
    subst hw
    rw [if_neg (by decide), own_refi]; unfold own_refI
    rw [if_pos (by omega), if_pos (by omega), if_neg (by omega), if_neg (by omega), if_neg (by omega), if_neg (by omega), if_neg (by omega), if_neg (by omega), if_neg (by omega), if_neg (by omega), if_neg (by omega), if_neg (by omega), if_neg (by omega), if_neg (by omega), if_neg (by omega), if_neg (by omega), if_neg (by omega)]
  have hb0 : ¬ j.toInt < 127 := q18
  have hb1 := h1
  have hv : v.toInt = 0 := by
    clear f0 f1 f2 f3 f4 f5 f6 f7 f8 f9 f10 f11 f12 f13 f14 f15 f16 f17 f18
    simp only [own_lt, own_le, own_eqi, own_eqL, c_i2l, Int32.reduceToInt, Int64.reduceToInt] at *
    omega
  clear f0 f1 f2 f3 f4 f5 f6 f7 f8 f9 f10 f11 f12 f13 f14 f15 f16 f17 f18 f19
  have hw : v = (0 : Int32) := by rw [own_eqi]; exact hv
  subst hw
  rw [if_pos rfl, own_refi]; unfold own_refI
  rw [if_pos (by omega), if_neg (by omega)]
theorem own_law (cl : Cell) (ht : ∀ j : Int32, ¬ j < 0 → j < 128 → (if atv cl j = (0 : Int32) then (0 : Int32) else 1) = own_ref j) (x : Int32) (h : ¬ x < 0) : own_val x cl = own_ref x := by
  by_cases h2 : x < 128
  · unfold own_val; rw [if_pos h2]; exact ht x h h2
  · unfold own_val
    rw [if_neg h2, own_refi]
    rw [own_lt, show (128 : Int32).toInt = 128 from rfl] at h2
    unfold own_refI
    rw [if_pos (by omega), if_neg (by omega)]
theorem own_n1 (x : Int32) : ¬ ((x &&& (255 : Int32)) < (0 : Int32)) := by
  have h := c_mask x 255 8 (by decide) (by decide)
  rw [own_lt, h, show (0 : Int32).toInt = 0 from rfl]; omega
theorem own_n2 (x : Int32) : ¬ ((x &&& (2147483647 : Int32)) < (0 : Int32)) := by
  have h := c_mask x 2147483647 31 (by decide) (by decide)
  rw [own_lt, h, show (0 : Int32).toInt = 0 from rfl]; omega
theorem pd_0 : parseMethodDescriptor "(I)Z" = some ⟨[.int], some .boolean⟩ := by decide +kernel
theorem ef_0 (m : MethodId) (p0_0 : Int32) (p0_1 : Int32) : entryFrame m #[(.int p0_0), (.int p0_1)] maxLocals = mkF m 0 #[.val (.int p0_0), .val (.int p0_1), .unset] [] := by first | (simp [entryFrame, mkF, argsToLocals, Value.category, maxLocals]; done) | rfl
def Q0 (Z : State) (p0_0 : Int32) (p0_1 : Int32) (u_TOKEN_CHARACTERS : Addr) (cl_u_TOKEN_CHARACTERS : Cell) (h0 : Heap) (n0 : Nat) (v : Option Value) (h : Heap) (L : List Loc) : Prop := v = some (.int (1 : Int32)) ∧ Fr n0 L
set_option maxRecDepth 65536 in
set_option maxHeartbeats 40000000 in
theorem rm0 (l : Launch) (Z : State) (a0 : Array Value) (hw : ∀ d ∈ tables_1, d.before a0 Z = true) (ws : List Jvm.Cond) (p0_0 : Int32) (p0_1 : Int32) (u_TOKEN_CHARACTERS : Addr) (cl_u_TOKEN_CHARACTERS : Cell) (h0 : Heap) (n0 : Nat) (Z0 : n0 ≤ h0.size) (S_TOKEN_CHARACTERS : Sta Z h0 "com/example/fat_envelope/fatenvelope/FieldScanner" "TOKEN_CHARACTERS" "[Z" (.ref u_TOKEN_CHARACTERS)) (Tb : Tab Z h0 u_TOKEN_CHARACTERS cl_u_TOKEN_CHARACTERS .boolean (128 : Int32)) (htab : ∀ j : Int32, ¬ j < 0 → j < 128 → (if atv cl_u_TOKEN_CHARACTERS j = (0 : Int32) then (0 : Int32) else 1) = own_ref j) :
    MetFree l x (head1 (Jvm.Cond.code x code maxLocals ret :: ws) room_1) (fun a U => a = #[(.int p0_0), (.int p0_1)] ∧ Z.Warmed39 U.vm ∧ U.heap = h0) (fun _ _ _ _ _ => True) (fun _ U o U' => ∃ v L, o = .returned v ∧ Q0 Z p0_0 p0_1 u_TOKEN_CHARACTERS cl_u_TOKEN_CHARACTERS h0 n0 v U'.heap L ∧ FrameEnd U o U' L 0 0) := by
  refine MetFree.of_bodySF (plainFor_of_name pn_1) hisR ?_
  intro p e s m args below meth c s₁ Bd hml0 hP hK
  obtain ⟨rfl, hZ, hh⟩ := hP
  have hx := Bd.exec
  have hby := Bd.bytes
  have hml : c.maxLocals = 3 := hml0
  have hown : s.vm.findClass "com/example/fat_envelope/fatenvelope/FieldScannerIsTokenCharacterPinLaw" = some m.cls := findClass_of_methodNamed Bd.named
  have hnm := (name_of_methodNamed Bd.named Bd.method).1
  have X0 : Stand p l e room_1 s m #[(.int p0_0), (.int p0_1)] below meth c s₁ [] 0 0 := Stand.of_body Bd
  have e0 : s₁.heap = h0 := by rw [← hh, Bd.state]; rfl
  have N0 := Fr.nil n0
  have pre0 : ∀ t, Steps p.tables e below (s₁.setTop (mkF m 0 #[.val (.int p0_0), .val (.int p0_1), .unset] [])) t → Steps p.tables e below (s₁.setTop (entryFrame m #[(.int p0_0), (.int p0_1)] maxLocals)) t := fun t k => castTop (ef_0 m p0_0 p0_1) k
  have k1 : ∀ t, Steps p.tables e below (s₁.setTop (mkF m 3 #[.val (.int p0_0), .val (.int p0_1), .unset] [(.int (p0_1 &&& (1 : Int32)))])) t → Steps p.tables e below (s₁.setTop (entryFrame m #[(.int p0_0), (.int p0_1)] maxLocals)) t := by
    intro t k
    refine pre0 t ?_
    show Steps p.tables e below (s₁.setTop (mkF m 0 #[.val (.int p0_0), .val (.int p0_1), .unset] [])) _
    refine XS.iloadN X0.here hx rfl (hb hby at_0) rfl ?_
    show Steps p.tables e below (s₁.setTop (mkF m 1 #[.val (.int p0_0), .val (.int p0_1), .unset] [(.int p0_1)])) _
    refine XS.iconst X0.here hx rfl (hb hby at_1) ?_
    show Steps p.tables e below (s₁.setTop (mkF m 2 #[.val (.int p0_0), .val (.int p0_1), .unset] [(.int (1 : Int32)), (.int p0_1)])) _
    refine XS.iand X0.here hx rfl (hb hby at_2) rfl ?_
    exact k
  by_cases hc3_2 : (p0_1 &&& (1 : Int32)) = (0 : Int32)
  · skip
    obtain ⟨_, _, ⟨T3, L3, k3, n3⟩, -, X3, ⟨Lc3, hQ3, l3, y3, z3⟩, st3⟩ := Jvm.LawKit.callS X0 hx (y := (⟨"com/example/fat_envelope/fatenvelope/FieldScanner", "isTokenCharacter", "(I)Z"⟩ : MethodName)) hown (mvT hZ (hw _ (List.mem_of_getElem? (i := 0) rfl))) (mvT hZ (hw _ (List.mem_of_getElem? (i := 1) rfl))) (mvT hZ (hw _ (List.mem_of_getElem? (i := 2) rfl))) (mvT hZ (hw _ (List.mem_of_getElem? (i := 3) rfl))) (by decide) (backOf (W := 0) (rm1 l Z a0 hw [] (p0_0 &&& (2147483647 : Int32)) u_TOKEN_CHARACTERS cl_u_TOKEN_CHARACTERS h0 n0 Z0 S_TOKEN_CHARACTERS Tb (own_n2 _)) hZ (hw _ (List.mem_of_getElem? (i := 3) rfl)) (hw _ (List.mem_of_getElem? (i := 2) rfl)) (by decide) (by decide)) (g := (mkF m 20 #[.val (.int p0_0), .val (.int p0_1), .val (.int (p0_0 &&& (2147483647 : Int32)))] [(.int (p0_0 &&& (2147483647 : Int32)))])) rfl (by rw [hml]; rfl) (argsL := [(.int (p0_0 &&& (2147483647 : Int32)))]) (rest := []) (lenOf pd_0 rfl) rfl (by show 2 * 0 + _ ≤ _; exact Nat.le_of_eq rfl) (hb hby at_20) (fun _ _ => ⟨rfl, e0, (by decide : 0 + 0 ≤ _), (by decide : 0 + 0 ≤ _)⟩)
    dsimp only [Pt.U, Pt.locs, Pt.cells, Pt.slots] at X3 l3 y3 z3 st3 hQ3
    subst l3 y3 z3
    obtain ⟨rfl, N3q, eh3⟩ := hQ3
    have N3 := Fr.app N0 N3q
    obtain ⟨_, _, ⟨T4, L4, k4, n4⟩, -, X4, ⟨Lc4, hQ4, l4, y4, z4⟩, st4⟩ := Jvm.LawKit.callS X3 hx (y := (⟨"com/example/fat_envelope/fatenvelope/FieldScannerIsTokenCharacterPinLaw", "expected", "(I)Z"⟩ : MethodName)) hown (mvT hZ (hw _ (List.mem_of_getElem? (i := 6) rfl))) (mvT hZ (hw _ (List.mem_of_getElem? (i := 7) rfl))) (mvT hZ (hw _ (List.mem_of_getElem? (i := 8) rfl))) (mvT hZ (hw _ (List.mem_of_getElem? (i := 9) rfl))) (by decide) (backOf (W := 1) (rm2 l Z a0 hw [] (p0_0 &&& (2147483647 : Int32)) h0 n0 Z0 ) hZ (hw _ (List.mem_of_getElem? (i := 9) rfl)) (hw _ (List.mem_of_getElem? (i := 8) rfl)) (by decide) (by decide)) (g := (mkF m 24 #[.val (.int p0_0), .val (.int p0_1), .val (.int (p0_0 &&& (2147483647 : Int32)))] [(.int (p0_0 &&& (2147483647 : Int32))), (.int (own_val (p0_0 &&& (2147483647 : Int32)) cl_u_TOKEN_CHARACTERS))])) rfl (by rw [hml]; rfl) (argsL := [(.int (p0_0 &&& (2147483647 : Int32)))]) (rest := [(.int (own_val (p0_0 &&& (2147483647 : Int32)) cl_u_TOKEN_CHARACTERS))]) (lenOf pd_0 rfl) rfl (by show 2 * 0 + _ ≤ _; exact Nat.le_of_eq rfl) (hb hby at_24) (fun _ _ => ⟨rfl, eh3, (by decide : 0 + 0 ≤ _), (by decide : 0 + 0 ≤ _)⟩)
    dsimp only [Pt.U, Pt.locs, Pt.cells, Pt.slots] at X4 l4 y4 z4 st4 hQ4
    subst l4 y4 z4
    obtain ⟨rfl, N4q, eh4⟩ := hQ4
    have N4 := Fr.app N3 N4q
    have k5 : ∀ t, Steps p.tables e below (T4.setTop (mkF m 35 #[.val (.int p0_0), .val (.int p0_1), .val (.int (p0_0 &&& (2147483647 : Int32)))] [(.int (1 : Int32))])) t → Steps p.tables e below (s₁.setTop (entryFrame m #[(.int p0_0), (.int p0_1)] maxLocals)) t := by
      intro t k
      refine k1 t ?_
      show Steps p.tables e below (s₁.setTop (mkF m 3 #[.val (.int p0_0), .val (.int p0_1), .unset] [(.int (p0_1 &&& (1 : Int32)))])) _
      refine XS.ifYes X0.here hx rfl (pc0 := 3) (pc' := 14) rfl (hb hby at_3) rfl ((if0 _ _).trans (teq hc3_2).1) (by decide) (by decide) ?_
      show Steps p.tables e below (s₁.setTop (mkF m 14 #[.val (.int p0_0), .val (.int p0_1), .unset] [])) _
      refine XS.iloadN X0.here hx rfl (hb hby at_14) rfl ?_
      show Steps p.tables e below (s₁.setTop (mkF m 15 #[.val (.int p0_0), .val (.int p0_1), .unset] [(.int p0_0)])) _
      refine X0.ldcInt hx hown (mvT hZ (hw _ (List.mem_of_getElem? (i := 10) rfl))) (g := (mkF m 15 #[.val (.int p0_0), .val (.int p0_1), .unset] [(.int p0_0)])) rfl (hb hby at_15) _ ?_
      show Steps p.tables e below (s₁.setTop (mkF m 17 #[.val (.int p0_0), .val (.int p0_1), .unset] [(.int (2147483647 : Int32)), (.int p0_0)])) _
      refine XS.iand X0.here hx rfl (hb hby at_17) rfl ?_
      show Steps p.tables e below (s₁.setTop (mkF m 18 #[.val (.int p0_0), .val (.int p0_1), .unset] [(.int (p0_0 &&& (2147483647 : Int32)))])) _
      refine XS.istoreN X0.here hx rfl (hb hby at_18) rfl (l' := #[.val (.int p0_0), .val (.int p0_1), .val (.int (p0_0 &&& (2147483647 : Int32)))]) rfl ?_
      show Steps p.tables e below (s₁.setTop (mkF m 19 #[.val (.int p0_0), .val (.int p0_1), .val (.int (p0_0 &&& (2147483647 : Int32)))] [])) _
      refine XS.iloadN X0.here hx rfl (hb hby at_19) rfl ?_
      show Steps p.tables e below (s₁.setTop (mkF m 20 #[.val (.int p0_0), .val (.int p0_1), .val (.int (p0_0 &&& (2147483647 : Int32)))] [(.int (p0_0 &&& (2147483647 : Int32)))])) _
      refine st3 _ ?_
      show Steps p.tables e below (T3.setTop (mkF m 23 #[.val (.int p0_0), .val (.int p0_1), .val (.int (p0_0 &&& (2147483647 : Int32)))] [(.int (own_val (p0_0 &&& (2147483647 : Int32)) cl_u_TOKEN_CHARACTERS))])) _
      refine XS.iloadN X3.here hx rfl (hb hby at_23) rfl ?_
      show Steps p.tables e below (T3.setTop (mkF m 24 #[.val (.int p0_0), .val (.int p0_1), .val (.int (p0_0 &&& (2147483647 : Int32)))] [(.int (p0_0 &&& (2147483647 : Int32))), (.int (own_val (p0_0 &&& (2147483647 : Int32)) cl_u_TOKEN_CHARACTERS))])) _
      refine st4 _ ?_
      show Steps p.tables e below (T4.setTop (mkF m 27 #[.val (.int p0_0), .val (.int p0_1), .val (.int (p0_0 &&& (2147483647 : Int32)))] [(.int (own_ref (p0_0 &&& (2147483647 : Int32)))), (.int (own_val (p0_0 &&& (2147483647 : Int32)) cl_u_TOKEN_CHARACTERS))])) _
      refine XS.icmpNo X4.here hx rfl (hb hby at_27) rfl (teq (own_law _ htab _ (own_n2 _))).2 ?_
      show Steps p.tables e below (T4.setTop (mkF m 30 #[.val (.int p0_0), .val (.int p0_1), .val (.int (p0_0 &&& (2147483647 : Int32)))] [])) _
      refine XS.iconst X4.here hx rfl (hb hby at_30) ?_
      show Steps p.tables e below (T4.setTop (mkF m 31 #[.val (.int p0_0), .val (.int p0_1), .val (.int (p0_0 &&& (2147483647 : Int32)))] [(.int (1 : Int32))])) _
      refine XS.goto X4.here hx rfl (pc0 := 31) (pc' := 35) rfl (hb hby at_31) (by decide) (by decide) ?_
      exact k
    obtain ⟨fs, hr, hrun, hended, hW, hsame⟩ := X4.leave (v := some (.int (1 : Int32))) (fun h => by rw [Bd.returns] at h; cases h)
    refine ⟨_, _, k5 _ ?_, hrun, hended, _, _, rfl, ?_, ⟨_, rfl⟩, hW, hsame.mono (by decide) (by decide)⟩
    · exact retN X4 hx (t := .boolean) Bd.returns (by simp) (hb hby at_35) hr
    · show Q0 Z p0_0 p0_1 u_TOKEN_CHARACTERS cl_u_TOKEN_CHARACTERS h0 n0 _ T4.heap _
      rw [eh4]
      exact ⟨rfl, N4⟩
  · skip
    obtain ⟨_, _, ⟨T6, L6, k6, n6⟩, -, X6, ⟨Lc6, hQ6, l6, y6, z6⟩, st6⟩ := Jvm.LawKit.callS X0 hx (y := (⟨"com/example/fat_envelope/fatenvelope/FieldScanner", "isTokenCharacter", "(I)Z"⟩ : MethodName)) hown (mvT hZ (hw _ (List.mem_of_getElem? (i := 0) rfl))) (mvT hZ (hw _ (List.mem_of_getElem? (i := 1) rfl))) (mvT hZ (hw _ (List.mem_of_getElem? (i := 2) rfl))) (mvT hZ (hw _ (List.mem_of_getElem? (i := 3) rfl))) (by decide) (backOf (W := 0) (rm1 l Z a0 hw [] (p0_0 &&& (255 : Int32)) u_TOKEN_CHARACTERS cl_u_TOKEN_CHARACTERS h0 n0 Z0 S_TOKEN_CHARACTERS Tb (own_n1 _)) hZ (hw _ (List.mem_of_getElem? (i := 3) rfl)) (hw _ (List.mem_of_getElem? (i := 2) rfl)) (by decide) (by decide)) (g := (mkF m 20 #[.val (.int p0_0), .val (.int p0_1), .val (.int (p0_0 &&& (255 : Int32)))] [(.int (p0_0 &&& (255 : Int32)))])) rfl (by rw [hml]; rfl) (argsL := [(.int (p0_0 &&& (255 : Int32)))]) (rest := []) (lenOf pd_0 rfl) rfl (by show 2 * 0 + _ ≤ _; exact Nat.le_of_eq rfl) (hb hby at_20) (fun _ _ => ⟨rfl, e0, (by decide : 0 + 0 ≤ _), (by decide : 0 + 0 ≤ _)⟩)
    dsimp only [Pt.U, Pt.locs, Pt.cells, Pt.slots] at X6 l6 y6 z6 st6 hQ6
    subst l6 y6 z6
    obtain ⟨rfl, N6q, eh6⟩ := hQ6
    have N6 := Fr.app N0 N6q
    obtain ⟨_, _, ⟨T7, L7, k7, n7⟩, -, X7, ⟨Lc7, hQ7, l7, y7, z7⟩, st7⟩ := Jvm.LawKit.callS X6 hx (y := (⟨"com/example/fat_envelope/fatenvelope/FieldScannerIsTokenCharacterPinLaw", "expected", "(I)Z"⟩ : MethodName)) hown (mvT hZ (hw _ (List.mem_of_getElem? (i := 6) rfl))) (mvT hZ (hw _ (List.mem_of_getElem? (i := 7) rfl))) (mvT hZ (hw _ (List.mem_of_getElem? (i := 8) rfl))) (mvT hZ (hw _ (List.mem_of_getElem? (i := 9) rfl))) (by decide) (backOf (W := 1) (rm2 l Z a0 hw [] (p0_0 &&& (255 : Int32)) h0 n0 Z0 ) hZ (hw _ (List.mem_of_getElem? (i := 9) rfl)) (hw _ (List.mem_of_getElem? (i := 8) rfl)) (by decide) (by decide)) (g := (mkF m 24 #[.val (.int p0_0), .val (.int p0_1), .val (.int (p0_0 &&& (255 : Int32)))] [(.int (p0_0 &&& (255 : Int32))), (.int (own_val (p0_0 &&& (255 : Int32)) cl_u_TOKEN_CHARACTERS))])) rfl (by rw [hml]; rfl) (argsL := [(.int (p0_0 &&& (255 : Int32)))]) (rest := [(.int (own_val (p0_0 &&& (255 : Int32)) cl_u_TOKEN_CHARACTERS))]) (lenOf pd_0 rfl) rfl (by show 2 * 0 + _ ≤ _; exact Nat.le_of_eq rfl) (hb hby at_24) (fun _ _ => ⟨rfl, eh6, (by decide : 0 + 0 ≤ _), (by decide : 0 + 0 ≤ _)⟩)
    dsimp only [Pt.U, Pt.locs, Pt.cells, Pt.slots] at X7 l7 y7 z7 st7 hQ7
    subst l7 y7 z7
    obtain ⟨rfl, N7q, eh7⟩ := hQ7
    have N7 := Fr.app N6 N7q
    have k8 : ∀ t, Steps p.tables e below (T7.setTop (mkF m 35 #[.val (.int p0_0), .val (.int p0_1), .val (.int (p0_0 &&& (255 : Int32)))] [(.int (1 : Int32))])) t → Steps p.tables e below (s₁.setTop (entryFrame m #[(.int p0_0), (.int p0_1)] maxLocals)) t := by
      intro t k
      refine k1 t ?_
      show Steps p.tables e below (s₁.setTop (mkF m 3 #[.val (.int p0_0), .val (.int p0_1), .unset] [(.int (p0_1 &&& (1 : Int32)))])) _
      refine XS.ifNo X0.here hx rfl (hb hby at_3) rfl ((if0 _ _).trans (feq hc3_2).1) ?_
      show Steps p.tables e below (s₁.setTop (mkF m 6 #[.val (.int p0_0), .val (.int p0_1), .unset] [])) _
      refine XS.iloadN X0.here hx rfl (hb hby at_6) rfl ?_
      show Steps p.tables e below (s₁.setTop (mkF m 7 #[.val (.int p0_0), .val (.int p0_1), .unset] [(.int p0_0)])) _
      refine XS.sipush X0.here hx rfl (hb hby at_7) ?_
      show Steps p.tables e below (s₁.setTop (mkF m 10 #[.val (.int p0_0), .val (.int p0_1), .unset] [(.int (255 : Int32)), (.int p0_0)])) _
      refine XS.iand X0.here hx rfl (hb hby at_10) rfl ?_
      show Steps p.tables e below (s₁.setTop (mkF m 11 #[.val (.int p0_0), .val (.int p0_1), .unset] [(.int (p0_0 &&& (255 : Int32)))])) _
      refine XS.goto X0.here hx rfl (pc0 := 11) (pc' := 18) rfl (hb hby at_11) (by decide) (by decide) ?_
      show Steps p.tables e below (s₁.setTop (mkF m 18 #[.val (.int p0_0), .val (.int p0_1), .unset] [(.int (p0_0 &&& (255 : Int32)))])) _
      refine XS.istoreN X0.here hx rfl (hb hby at_18) rfl (l' := #[.val (.int p0_0), .val (.int p0_1), .val (.int (p0_0 &&& (255 : Int32)))]) rfl ?_
      show Steps p.tables e below (s₁.setTop (mkF m 19 #[.val (.int p0_0), .val (.int p0_1), .val (.int (p0_0 &&& (255 : Int32)))] [])) _
      refine XS.iloadN X0.here hx rfl (hb hby at_19) rfl ?_
      show Steps p.tables e below (s₁.setTop (mkF m 20 #[.val (.int p0_0), .val (.int p0_1), .val (.int (p0_0 &&& (255 : Int32)))] [(.int (p0_0 &&& (255 : Int32)))])) _
      refine st6 _ ?_
      show Steps p.tables e below (T6.setTop (mkF m 23 #[.val (.int p0_0), .val (.int p0_1), .val (.int (p0_0 &&& (255 : Int32)))] [(.int (own_val (p0_0 &&& (255 : Int32)) cl_u_TOKEN_CHARACTERS))])) _
      refine XS.iloadN X6.here hx rfl (hb hby at_23) rfl ?_
      show Steps p.tables e below (T6.setTop (mkF m 24 #[.val (.int p0_0), .val (.int p0_1), .val (.int (p0_0 &&& (255 : Int32)))] [(.int (p0_0 &&& (255 : Int32))), (.int (own_val (p0_0 &&& (255 : Int32)) cl_u_TOKEN_CHARACTERS))])) _
      refine st7 _ ?_
      show Steps p.tables e below (T7.setTop (mkF m 27 #[.val (.int p0_0), .val (.int p0_1), .val (.int (p0_0 &&& (255 : Int32)))] [(.int (own_ref (p0_0 &&& (255 : Int32)))), (.int (own_val (p0_0 &&& (255 : Int32)) cl_u_TOKEN_CHARACTERS))])) _
      refine XS.icmpNo X7.here hx rfl (hb hby at_27) rfl (teq (own_law _ htab _ (own_n1 _))).2 ?_
      show Steps p.tables e below (T7.setTop (mkF m 30 #[.val (.int p0_0), .val (.int p0_1), .val (.int (p0_0 &&& (255 : Int32)))] [])) _
      refine XS.iconst X7.here hx rfl (hb hby at_30) ?_
      show Steps p.tables e below (T7.setTop (mkF m 31 #[.val (.int p0_0), .val (.int p0_1), .val (.int (p0_0 &&& (255 : Int32)))] [(.int (1 : Int32))])) _
      refine XS.goto X7.here hx rfl (pc0 := 31) (pc' := 35) rfl (hb hby at_31) (by decide) (by decide) ?_
      exact k
    obtain ⟨fs, hr, hrun, hended, hW, hsame⟩ := X7.leave (v := some (.int (1 : Int32))) (fun h => by rw [Bd.returns] at h; cases h)
    refine ⟨_, _, k8 _ ?_, hrun, hended, _, _, rfl, ?_, ⟨_, rfl⟩, hW, hsame.mono (by decide) (by decide)⟩
    · exact retN X7 hx (t := .boolean) Bd.returns (by simp) (hb hby at_35) hr
    · show Q0 Z p0_0 p0_1 u_TOKEN_CHARACTERS cl_u_TOKEN_CHARACTERS h0 n0 _ T7.heap _
      rw [eh7]
      exact ⟨rfl, N7⟩
set_option maxRecDepth 65536 in
set_option maxHeartbeats 40000000 in
theorem comes_1 {Post : Tables → Env → Array Value → State → Outcome → State → Prop} (hpost : ∀ tb e args s v u, (limb_1_1.after args s (.returned v) u = true ∧ limb_1_2.after args s (.returned v) u = true ∧ True) → FrameEnd s (.returned v) u (Jvm.fieldLocs frame_1_writes args s ++ Jvm.arrayLocs frame_1_arrays args s ++ Jvm.staticLocs frame_1_statics s) 0 0 → Post tb e args s (.returned v) u) :
    ArmFor flags0 classFile x code maxLocals ret World_1 tables_1 room_1 Calls_1 rest_1 Pre_1 Post := by
  intro l hfl _ _ p e ha hc hk s m args below hf hA hF happ hP
  obtain ⟨hcalls, hrest, hpre⟩ := hP
  obtain ⟨-, -, -, hnamed, -, -, -, hat⟩ := (Spec.applies_iff hf).mp happ
  obtain ⟨hg, hn⟩ := and_e (Cond.before_iff.mp (show (Jvm.Cond.and given_1 narrow_1).before args s = true from hpre))
  obtain ⟨gv1, gv2⟩ := and_e hg
  obtain ⟨gv3, gv4⟩ := and_e gv2
  obtain ⟨w0, w1, rfl⟩ : ∃ w0 w1 : Value, args = #[w0, w1] := by
    have hs : args.size = 2 := by simpa [Cond.value, given_1] using gv1
    obtain ⟨L⟩ := args
    match L, hs with
    | [w0, w1], _ => exact ⟨w0, w1, rfl⟩
  have hw := fun d (hd : d ∈ tables_1) => atoms_spec (ws := Jvm.Cond.code x code maxLocals ret :: tables_1) hat d (List.mem_cons_of_mem _ hd)
  have hfit : Fit s := fun {y c} hc i hi => by
    obtain ⟨ha, rfl⟩ := Array.getElem?_eq_some_iff.mp hc
    have q := List.all_eq_true.mp ((Array.all_eq_true_iff_forall_mem.mp hF) _ (Array.getElem_mem ha)) i (List.mem_range.mpr hi)
    simpa [Array.getElem?_eq_getElem hi] using q
  obtain ⟨i0, ei0⟩ := is_v gv3
  obtain rfl : w0 = (.int i0) := Option.some.inj ei0
  obtain ⟨i1, ei1⟩ := is_v gv4
  obtain rfl : w1 = (.int i1) := Option.some.inj ei1
  obtain ⟨nv1, nv2⟩ := and_e hn
  obtain ⟨nv3, nv4⟩ := and_e nv2
  obtain ⟨nv5, nv6⟩ := and_e nv4
  obtain ⟨nv7, nv8⟩ := and_e nv6
  obtain ⟨nv9, nv10⟩ := and_e nv8
  obtain ⟨nv11, nv12⟩ := and_e nv10
  obtain ⟨nv13, nv14⟩ := and_e nv12
  obtain ⟨nv15, nv16⟩ := and_e nv14
  obtain ⟨nv17, nv18⟩ := and_e nv16
  obtain ⟨nv19, nv20⟩ := and_e nv18
  obtain ⟨nv21, nv22⟩ := and_e nv20
  obtain ⟨nv23, nv24⟩ := and_e nv22
  obtain ⟨nv25, nv26⟩ := and_e nv24
  obtain ⟨nv27, nv28⟩ := and_e nv26
  obtain ⟨nv29, nv30⟩ := and_e nv28
  obtain ⟨nv31, nv32⟩ := and_e nv30
  obtain ⟨nv33, nv34⟩ := and_e nv32
  obtain ⟨nv35, nv36⟩ := and_e nv34
  obtain ⟨nv37, nv38⟩ := and_e nv36
  obtain ⟨nv39, nv40⟩ := and_e nv38
  obtain ⟨nv41, nv42⟩ := and_e nv40
  obtain ⟨u_TOKEN_CHARACTERS, ev_u_TOKEN_CHARACTERS⟩ := arr_v nv1
  obtain ⟨cl_u_TOKEN_CHARACTERS, Ar_u_TOKEN_CHARACTERS⟩ := Arr.start ev_u_TOKEN_CHARACTERS nv1
  have S_TOKEN_CHARACTERS : Sta s s.heap "com/example/fat_envelope/fatenvelope/FieldScanner" "TOKEN_CHARACTERS" "[Z" (.ref u_TOKEN_CHARACTERS) := Sta.start ev_u_TOKEN_CHARACTERS (Or.inr ⟨(hw _ (List.mem_of_getElem? (i := 2) rfl)), (hw _ (List.mem_of_getElem? (i := 5) rfl))⟩)
  have e_1 := own_evI nv3
  have e_2 := own_evI nv7
  have e_3 := own_evI nv9
  have e_4 := own_evI nv13
  have e_5 := own_evI nv15
  have e_6 := own_evI nv17
  have e_7 := own_evI nv19
  have e_8 := own_evI nv21
  have e_9 := own_evI nv23
  have e_10 := own_evI nv25
  have e_11 := own_evI nv27
  have e_12 := own_evI nv35
  have e_13 := own_evI nv37
  have e_14 := own_evI nv39
  have e_15 := own_evI nv42
  have hlen := own_len ev_u_TOKEN_CHARACTERS (Ar_u_TOKEN_CHARACTERS.fin (Vm.Alike.refl _)) (own_evI nv3)
  have Tb : Tab s s.heap u_TOKEN_CHARACTERS cl_u_TOKEN_CHARACTERS .boolean (128 : Int32) := Tab.start hfit Ar_u_TOKEN_CHARACTERS (by simp) hlen.1 hlen.2 (by decide)
  have htab : ∀ j : Int32, ¬ j < 0 → j < 128 → (if atv cl_u_TOKEN_CHARACTERS j = (0 : Int32) then (0 : Int32) else 1) = own_ref j := by
    intro j hj0 hj1
    have hin : ¬ (j < 0 ∨ cl_u_TOKEN_CHARACTERS.slots.size ≤ j.toNatClampNeg) := inb_of Tb.2.1 ⟨hj0, hj1⟩
    have hlt : j.toNatClampNeg < cl_u_TOKEN_CHARACTERS.slots.size := Nat.lt_of_not_le fun x => hin (Or.inr x)
    have hel := (elem_f (t := Jvm.Term.static "com/example/fat_envelope/fatenvelope/FieldScanner" "TOKEN_CHARACTERS" "[Z") (args := #[.int i0, .int i1]) (first := s) (o := none) (idx := [j.toNatClampNeg]) (s := s) ev_u_TOKEN_CHARACTERS (idx_at hj0) (Ar_u_TOKEN_CHARACTERS.fin (Vm.Alike.refl _)) hj0).trans (Tb.2.2.2 j hin)
    exact own_plain j _ hj0 hj1 (or_e2 (Cond.le_ints (Term.int_eval _) (idx_at hj0)) (Cond.eq_ints hel (Term.int_eval _)) (Cond.all_elim (idx := []) (ev_u_TOKEN_CHARACTERS) (Ar_u_TOKEN_CHARACTERS.fin (Vm.Alike.refl _)) nv5 j.toNatClampNeg hlt)) (one_at (atv_of (elem_in (own_evI nv7) ev_u_TOKEN_CHARACTERS (Term.int_eval _) Ar_u_TOKEN_CHARACTERS.1).2) j) (one_at (atv_of (elem_in (own_evI nv9) ev_u_TOKEN_CHARACTERS (Term.int_eval _) Ar_u_TOKEN_CHARACTERS.1).2) j) (or3 (Cond.all_elim (idx := []) (ev_u_TOKEN_CHARACTERS) (Ar_u_TOKEN_CHARACTERS.fin (Vm.Alike.refl _)) nv11 j.toNatClampNeg hlt) (Cond.lt_ints (idx_at hj0) (Term.int_eval _)) (Cond.le_ints (Term.int_eval _) (idx_at hj0)) (Cond.eq_ints hel (Term.int_eval _))) (one_at (atv_of (elem_in (own_evI nv13) ev_u_TOKEN_CHARACTERS (Term.int_eval _) Ar_u_TOKEN_CHARACTERS.1).2) j) (one_at (atv_of (elem_in (own_evI nv15) ev_u_TOKEN_CHARACTERS (Term.int_eval _) Ar_u_TOKEN_CHARACTERS.1).2) j) (one_at (atv_of (elem_in (own_evI nv17) ev_u_TOKEN_CHARACTERS (Term.int_eval _) Ar_u_TOKEN_CHARACTERS.1).2) j) (one_at (atv_of (elem_in (own_evI nv19) ev_u_TOKEN_CHARACTERS (Term.int_eval _) Ar_u_TOKEN_CHARACTERS.1).2) j) (one_at (atv_of (elem_in (own_evI nv21) ev_u_TOKEN_CHARACTERS (Term.int_eval _) Ar_u_TOKEN_CHARACTERS.1).2) j) (one_at (atv_of (elem_in (own_evI nv23) ev_u_TOKEN_CHARACTERS (Term.int_eval _) Ar_u_TOKEN_CHARACTERS.1).2) j) (one_at (atv_of (elem_in (own_evI nv25) ev_u_TOKEN_CHARACTERS (Term.int_eval _) Ar_u_TOKEN_CHARACTERS.1).2) j) (one_at (atv_of (elem_in (own_evI nv27) ev_u_TOKEN_CHARACTERS (Term.int_eval _) Ar_u_TOKEN_CHARACTERS.1).2) j) (or3 (Cond.all_elim (idx := []) (ev_u_TOKEN_CHARACTERS) (Ar_u_TOKEN_CHARACTERS.fin (Vm.Alike.refl _)) nv29 j.toNatClampNeg hlt) (Cond.lt_ints (idx_at hj0) (Term.int_eval _)) (Cond.le_ints (Term.int_eval _) (idx_at hj0)) (Cond.eq_ints hel (Term.int_eval _))) (or3 (Cond.all_elim (idx := []) (ev_u_TOKEN_CHARACTERS) (Ar_u_TOKEN_CHARACTERS.fin (Vm.Alike.refl _)) nv31 j.toNatClampNeg hlt) (Cond.lt_ints (idx_at hj0) (Term.int_eval _)) (Cond.le_ints (Term.int_eval _) (idx_at hj0)) (Cond.eq_ints hel (Term.int_eval _))) (or3 (Cond.all_elim (idx := []) (ev_u_TOKEN_CHARACTERS) (Ar_u_TOKEN_CHARACTERS.fin (Vm.Alike.refl _)) nv33 j.toNatClampNeg hlt) (Cond.lt_ints (idx_at hj0) (Term.int_eval _)) (Cond.le_ints (Term.int_eval _) (idx_at hj0)) (Cond.eq_ints hel (Term.int_eval _))) (one_at (atv_of (elem_in (own_evI nv35) ev_u_TOKEN_CHARACTERS (Term.int_eval _) Ar_u_TOKEN_CHARACTERS.1).2) j) (one_at (atv_of (elem_in (own_evI nv37) ev_u_TOKEN_CHARACTERS (Term.int_eval _) Ar_u_TOKEN_CHARACTERS.1).2) j) (one_at (atv_of (elem_in (own_evI nv39) ev_u_TOKEN_CHARACTERS (Term.int_eval _) Ar_u_TOKEN_CHARACTERS.1).2) j) (or3 (Cond.all_elim (idx := []) (ev_u_TOKEN_CHARACTERS) (Ar_u_TOKEN_CHARACTERS.fin (Vm.Alike.refl _)) nv41 j.toNatClampNeg hlt) (Cond.lt_ints (idx_at hj0) (Term.int_eval _)) (Cond.le_ints (Term.int_eval _) (idx_at hj0)) (Cond.eq_ints hel (Term.int_eval _))) (one_at (atv_of (elem_in (own_evI nv42) ev_u_TOKEN_CHARACTERS (Term.int_eval _) Ar_u_TOKEN_CHARACTERS.1).2) j)
  obtain ⟨n, o, h1, h2, h3, _, L, rfl, ⟨rfl, N⟩, hq⟩ := rm0 l s _ hw tables_1 i0 i1 u_TOKEN_CHARACTERS cl_u_TOKEN_CHARACTERS s.heap s.heap.size (Nat.le_refl _) S_TOKEN_CHARACTERS Tb htab p e ha hc hk s m _ below hf ((Spec.applies_iff_loose hf).mp happ).1 ⟨rfl, State.Warmed39.refl s, rfl⟩ trivial
  refine ⟨n, _, h1, h2, h3, hpost _ _ _ _ _ _ ⟨Cond.after_iff.mpr rfl, Cond.after_iff.mpr (eq_i res_at (Term.int_eval (1)) rfl), trivial⟩ ⟨hq.1, hq.2.1, (hq.2.2.sift fun y hy => Or.inr (N y hy)).mono (by decide) (by decide)⟩⟩
theorem main_1_1 : Claimed_1_1 := comes_1 fun _ _ _ _ _ _ h hF => ⟨h.1, hF⟩
theorem main_1_2 : Claimed_1_2 := comes_1 fun _ _ _ _ _ _ h hF => ⟨h.2.1, hF⟩
end Jvm.Pilot.@@N@@
namespace Jvm.Pilot.@@N@@
open Jvm Jvm.ClassFile Sem Op Lib Jvm.Free Jvm.Stand Jvm.Pilot.@@N@@.Jvm.D
/-! MADE BY PROGRAM (witnessworld.py) out of the Statement's table words and the real class files: 11 classes; the members and pool entries that the words name. The judged class is class 1, her method 1. -/
namespace start1
open Jvm.ClassFile
def u (s : String) : CpInfo := .utf8 (stringToUtf16 s)
/-- a pool by its gaps: so many unusable entries, then the entry; so many at the end -/
def gap : Nat → List CpInfo → List CpInfo
  | 0, r => r
  | n + 1, r => .unusable :: gap n r
def poolList (es : List (Nat × CpInfo)) (last : Nat) : List CpInfo := es.foldr (fun e r => gap e.1 (e.2 :: r)) (gap last [])
def pool (es : List (Nat × CpInfo)) (last : Nat) : Array CpInfo := ⟨poolList es last⟩
def fileOf (pool : Array CpInfo) (this : Nat) (attrs : Array Attribute := #[]) (ms : Array MethodInfo := #[]) (fl : Nat := 33) (sup : Nat := 0) (ifs : Array Nat := #[]) (fds : Array FieldInfo := #[]) : ClassFile where
  minorVersion := 0
  majorVersion := 65
  constantPool := pool
  accessFlags := fl
  thisClass := this
  superClass := sup
  interfaces := ifs
  fields := fds
  methods := ms
  attributes := attrs
def plain (name : String) (sup : Option ClassId) : Class where
  name := name
  kind := .ordinary
  loader := none
  accessFlags := 33
  super := sup
  interfaces := #[]
  cf := none
  fields := #[]
  methods := #[]
  instanceTypes := #[]
  staticTypes := #[]
  resolved := #[]
  callSites := []
  init := .initialized
  statics := none
  mirror := none

def pool0 : Array CpInfo := pool [(5, u "<init>"), (0, u "()V"), (1, .class_ 10), (1, u "java/lang/Object")] 113

def k0m0 : Method := { name := "<init>", desc := "()V", sig := { parameters := [], returnType := none }, accessFlags := 1, code := none }
/-- java/lang/Object -/
def k0 : Class := { plain "java/lang/Object" none with
  accessFlags := 33
  interfaces := #[]
  cf := some (fileOf pool0 8 #[] #[{ accessFlags := 1, nameIndex := 5, descriptorIndex := 6, attributes := #[] }] 33 0 #[] #[])
  fields := #[]
  methods := #[k0m0]
  instanceTypes := #[]
  staticTypes := #[]
  resolved := Array.replicate 124 none
  statics := none }

def pool1 : Array CpInfo := pool [(2, .class_ 4), (1, u "java/lang/Object"), (0, u "<init>"), (0, u "()V"), (0, .integer 2147483647), (0, .methodref 9 10), (0, .class_ 11), (0, .nameAndType 12 13), (0, u "com/example/fat_envelope/fatenvelope/FieldScanner"), (0, u "isTokenCharacter"), (0, u "(I)Z"), (0, .methodref 15 16), (0, .class_ 17), (0, .nameAndType 18 13), (0, u "com/example/fat_envelope/fatenvelope/FieldScannerIsTokenCharacterPinLaw"), (0, u "expected"), (2, u "law"), (0, u "(II)Z")] 3

def k1m0 : Method := { name := "<init>", desc := "()V", sig := { parameters := [], returnType := none }, accessFlags := 2, code := none }
def k1c1 : Code := { maxStack := 2, maxLocals := 3, code := code, exceptionTable := #[], attributes := #[] }
def k1m1 : Method := { name := "law", desc := "(II)Z", sig := { parameters := [.int, .int], returnType := some .boolean }, accessFlags := 9, code := some k1c1 }
def k1c2 : Code := { maxStack := 2, maxLocals := 1, code := method_3_code, exceptionTable := #[], attributes := #[] }
def k1m2 : Method := { name := "expected", desc := "(I)Z", sig := { parameters := [.int], returnType := some .boolean }, accessFlags := 10, code := some k1c2 }
/-- com/example/fat_envelope/fatenvelope/FieldScannerIsTokenCharacterPinLaw -/
def k1 : Class := { plain "com/example/fat_envelope/fatenvelope/FieldScannerIsTokenCharacterPinLaw" (some 0) with
  accessFlags := 49
  interfaces := #[]
  cf := some (fileOf pool1 15 #[] #[{ accessFlags := 2, nameIndex := 5, descriptorIndex := 6, attributes := #[] }, { accessFlags := 9, nameIndex := 21, descriptorIndex := 22, attributes := #[] }, { accessFlags := 10, nameIndex := 18, descriptorIndex := 13, attributes := #[] }] 49 2 #[] #[])
  fields := #[]
  methods := #[k1m0, k1m1, k1m2]
  instanceTypes := #[]
  staticTypes := #[]
  resolved := Array.replicate 26 none
  statics := none }

def pool2 : Array CpInfo := pool [(2, .class_ 4), (1, u "java/lang/Object"), (3, .class_ 10), (1, u "com/example/fat_envelope/fatenvelope/FieldScanner"), (0, u "leadAlone"), (0, u "Z"), (2, u "leadTokens"), (0, u "I"), (2, u "listener"), (0, u "Lcom/example/fat_envelope/fatenvelope/FieldScanner$Listener;"), (2, u "state"), (2, u "commentDepth"), (6, u "inQuotes"), (8, u "position"), (0, u "J"), (19, u "start"), (1, .class_ 67), (1, u "com/example/fat_envelope/fatenvelope/FieldScanner$Listener"), (3, .class_ 73), (1, u "com/example/fat_envelope/fatenvelope/FieldScanner$Part"), (0, u "LEAD"), (3, u "NAME"), (5, u "escaping"), (19, u "(I)Z"), (41, .fieldref 8 147), (0, .nameAndType 148 149), (0, u "TOKEN_CHARACTERS"), (0, u "[Z"), (22, u "isTokenCharacter"), (6, u "leads"), (28, u "SPECIALS"), (0, u "Ljava/lang/String;"), (2, u "LEAD_TOKEN"), (1, u "LEAD_JOIN"), (1, u "LIST"), (2, u "AFTER_NAME"), (1, u "BEFORE_VALUE"), (1, u "PLAIN_VALUE"), (1, u "QUOTED_VALUE"), (1, u "SKIP")] 44

def k2c0 : Code := { maxStack := 2, maxLocals := 1, code := prog_37_method_17_code, exceptionTable := #[], attributes := #[] }
def k2m0 : Method := { name := "isTokenCharacter", desc := "(I)Z", sig := { parameters := [.int], returnType := some .boolean }, accessFlags := 8, code := some k2c0 }
/-- com/example/fat_envelope/fatenvelope/FieldScanner -/
def k2 : Class := { plain "com/example/fat_envelope/fatenvelope/FieldScanner" (some 0) with
  accessFlags := 48
  interfaces := #[]
  cf := some (fileOf pool2 8 #[.nestMembers #[65, 71]] #[{ accessFlags := 8, nameIndex := 172, descriptorIndex := 104, attributes := #[] }] 48 2 #[] #[{ accessFlags := 26, nameIndex := 208, descriptorIndex := 209, attributes := #[] }, { accessFlags := 26, nameIndex := 148, descriptorIndex := 149, attributes := #[] }, { accessFlags := 26, nameIndex := 74, descriptorIndex := 16, attributes := #[] }, { accessFlags := 26, nameIndex := 212, descriptorIndex := 16, attributes := #[] }, { accessFlags := 26, nameIndex := 214, descriptorIndex := 16, attributes := #[] }, { accessFlags := 26, nameIndex := 216, descriptorIndex := 16, attributes := #[] }, { accessFlags := 26, nameIndex := 78, descriptorIndex := 16, attributes := #[] }, { accessFlags := 26, nameIndex := 219, descriptorIndex := 16, attributes := #[] }, { accessFlags := 26, nameIndex := 221, descriptorIndex := 16, attributes := #[] }, { accessFlags := 26, nameIndex := 223, descriptorIndex := 16, attributes := #[] }, { accessFlags := 26, nameIndex := 225, descriptorIndex := 16, attributes := #[] }, { accessFlags := 26, nameIndex := 227, descriptorIndex := 16, attributes := #[] }, { accessFlags := 18, nameIndex := 15, descriptorIndex := 16, attributes := #[] }, { accessFlags := 18, nameIndex := 19, descriptorIndex := 20, attributes := #[] }, { accessFlags := 2, nameIndex := 23, descriptorIndex := 16, attributes := #[] }, { accessFlags := 2, nameIndex := 179, descriptorIndex := 16, attributes := #[] }, { accessFlags := 2, nameIndex := 42, descriptorIndex := 43, attributes := #[] }, { accessFlags := 2, nameIndex := 63, descriptorIndex := 43, attributes := #[] }, { accessFlags := 2, nameIndex := 26, descriptorIndex := 16, attributes := #[] }, { accessFlags := 2, nameIndex := 33, descriptorIndex := 12, attributes := #[] }, { accessFlags := 2, nameIndex := 84, descriptorIndex := 12, attributes := #[] }, { accessFlags := 2, nameIndex := 11, descriptorIndex := 12, attributes := #[] }])
  fields := #[{ name := "SPECIALS", type := (.object "java/lang/String"), accessFlags := 26, slot := 0, constantValue := 0 }, { name := "TOKEN_CHARACTERS", type := (.array .boolean), accessFlags := 26, slot := 1, constantValue := 0 }, { name := "LEAD", type := .int, accessFlags := 26, slot := 2, constantValue := 0 }, { name := "LEAD_TOKEN", type := .int, accessFlags := 26, slot := 3, constantValue := 0 }, { name := "LEAD_JOIN", type := .int, accessFlags := 26, slot := 4, constantValue := 0 }, { name := "LIST", type := .int, accessFlags := 26, slot := 5, constantValue := 0 }, { name := "NAME", type := .int, accessFlags := 26, slot := 6, constantValue := 0 }, { name := "AFTER_NAME", type := .int, accessFlags := 26, slot := 7, constantValue := 0 }, { name := "BEFORE_VALUE", type := .int, accessFlags := 26, slot := 8, constantValue := 0 }, { name := "PLAIN_VALUE", type := .int, accessFlags := 26, slot := 9, constantValue := 0 }, { name := "QUOTED_VALUE", type := .int, accessFlags := 26, slot := 10, constantValue := 0 }, { name := "SKIP", type := .int, accessFlags := 26, slot := 11, constantValue := 0 }, { name := "leadTokens", type := .int, accessFlags := 18, slot := 0, constantValue := 0 }, { name := "listener", type := (.object "com/example/fat_envelope/fatenvelope/FieldScanner$Listener"), accessFlags := 18, slot := 1, constantValue := 0 }, { name := "state", type := .int, accessFlags := 2, slot := 2, constantValue := 0 }, { name := "leads", type := .int, accessFlags := 2, slot := 3, constantValue := 0 }, { name := "position", type := .long, accessFlags := 2, slot := 4, constantValue := 0 }, { name := "start", type := .long, accessFlags := 2, slot := 5, constantValue := 0 }, { name := "commentDepth", type := .int, accessFlags := 2, slot := 6, constantValue := 0 }, { name := "inQuotes", type := .boolean, accessFlags := 2, slot := 7, constantValue := 0 }, { name := "escaping", type := .boolean, accessFlags := 2, slot := 8, constantValue := 0 }, { name := "leadAlone", type := .boolean, accessFlags := 2, slot := 9, constantValue := 0 }]
  methods := #[k2m0]
  instanceTypes := #[.int, (.object "com/example/fat_envelope/fatenvelope/FieldScanner$Listener"), .int, .int, .long, .long, .int, .boolean, .boolean, .boolean]
  staticTypes := #[(.object "java/lang/String"), (.array .boolean), .int, .int, .int, .int, .int, .int, .int, .int, .int, .int]
  resolved := Array.replicate 272 none
  statics := some 0 }

def pool3 : Array CpInfo := pool [(1, u "java/lang/Cloneable"), (0, .class_ 1), (0, u "java/lang/Object"), (0, .class_ 3)] 3

/-- java/lang/Cloneable -/
def k3 : Class := { plain "java/lang/Cloneable" (some 0) with
  accessFlags := 1537
  interfaces := #[]
  cf := some (fileOf pool3 2 #[] #[] 1537 4 #[] #[])
  fields := #[]
  methods := #[]
  instanceTypes := #[]
  staticTypes := #[]
  resolved := Array.replicate 8 none
  statics := none }

def pool4 : Array CpInfo := pool [(1, u "java/io/Serializable"), (0, .class_ 1), (0, u "java/lang/Object"), (0, .class_ 3)] 3

/-- java/io/Serializable -/
def k4 : Class := { plain "java/io/Serializable" (some 0) with
  accessFlags := 1537
  interfaces := #[]
  cf := some (fileOf pool4 2 #[] #[] 1537 4 #[] #[])
  fields := #[]
  methods := #[]
  instanceTypes := #[]
  staticTypes := #[]
  resolved := Array.replicate 8 none
  statics := none }

/-- the primitive boolean -/
def k5 : Class := { plain "boolean" none with kind := .primitive 'Z', accessFlags := 0x411 }
/-- [Z -/
def k6 : Class := { plain "[Z" (some 0) with kind := .array 5 .boolean, interfaces := #[3, 4], accessFlags := 1041 }

/-- the primitive byte -/
def k7 : Class := { plain "byte" none with kind := .primitive 'B', accessFlags := 0x411 }
/-- [B -/
def k8 : Class := { plain "[B" (some 0) with kind := .array 7 .byte, interfaces := #[3, 4], accessFlags := 1041 }

/-- the primitive int -/
def k9 : Class := { plain "int" none with kind := .primitive 'I', accessFlags := 0x411 }
/-- [I -/
def k10 : Class := { plain "[I" (some 0) with kind := .array 9 .int, interfaces := #[3, 4], accessFlags := 1041 }

def heap : Heap := #[{ cls := 2, slots := #[.null, .ref 1, .int 0, .int 0, .int 0, .int 0, .int 0, .int 0, .int 0, .int 0, .int 0, .int 0], vm := .statics 2 },
  { cls := 6, slots := #[.int 0, .int 0, .int 0, .int 0, .int 0, .int 0, .int 0, .int 0, .int 0, .int 0, .int 0, .int 0, .int 0, .int 0, .int 0, .int 0, .int 0, .int 0, .int 0, .int 0, .int 0, .int 0, .int 0, .int 0, .int 0, .int 0, .int 0, .int 0, .int 0, .int 0, .int 0, .int 0, .int 0, .int 1, .int 0, .int 1, .int 1, .int 1, .int 1, .int 1, .int 0, .int 0, .int 1, .int 1, .int 0, .int 1, .int 1, .int 0, .int 1, .int 1, .int 1, .int 1, .int 1, .int 1, .int 1, .int 1, .int 1, .int 1, .int 0, .int 0, .int 0, .int 0, .int 0, .int 0, .int 0, .int 1, .int 1, .int 1, .int 1, .int 1, .int 1, .int 1, .int 1, .int 1, .int 1, .int 1, .int 1, .int 1, .int 1, .int 1, .int 1, .int 1, .int 1, .int 1, .int 1, .int 1, .int 1, .int 1, .int 1, .int 1, .int 1, .int 0, .int 0, .int 0, .int 1, .int 1, .int 1, .int 1, .int 1, .int 1, .int 1, .int 1, .int 1, .int 1, .int 1, .int 1, .int 1, .int 1, .int 1, .int 1, .int 1, .int 1, .int 1, .int 1, .int 1, .int 1, .int 1, .int 1, .int 1, .int 1, .int 1, .int 1, .int 1, .int 1, .int 1, .int 1, .int 1, .int 0], vm := .none }]
def classes : Array Class := #[k0, k1, k2, k3, k4, k5, k6, k7, k8, k9, k10]
def interned : List (Array UInt16 × Addr) := []
def slotsUsed : Nat := 140
def theMethod : MethodId := ⟨1, 1⟩
def args0 : Array Value := #[.int 5, .int 3]
def aboutOver (below : List Frame) : State where
  vm := { classes := classes, interned := interned.toArray }
  heap := heap
  slotsUsed := slotsUsed
  threads := #[{ frames := .invoking theMethod args0 :: below }]
def below0 : List Frame := [.native { method := ⟨0, 0⟩, args := #[] }]
def about1 : State := aboutOver below0
def p0 : Program := .bare "" "" ""
def e0 : Env := launch0.env 0 0 0
theorem w_frames : about1.frames = Frame.invoking theMethod args0 :: below0 := rfl
set_option maxRecDepth 65536 in
theorem w_args : argsFit about1.vm theMethod args0 = true := by decide +kernel
set_option maxRecDepth 65536 in
theorem w_heap : heapFits about1 = true := by decide +kernel
set_option maxRecDepth 65536 in
theorem w_runnable : about1.curStatus? = some .runnable := by decide +kernel
set_option maxRecDepth 65536 in
theorem w_alone : about1.alone = true := by decide +kernel
set_option maxRecDepth 65536 in
theorem w_named : about1.methodNamed? x = some theMethod := by decide +kernel
set_option maxRecDepth 65536 in
theorem w_hears : about1.hears theMethod below0 = true := by decide +kernel
set_option maxRecDepth 65536 in
theorem w_ripe : about1.ripe theMethod args0 below0 = true := by decide +kernel
theorem w_running : about1.status = .running := rfl
set_option maxRecDepth 65536 in
theorem w_room : about1.hasRoom e0.platform room_1 = true :=
  launch0.hasRoom_least _ room_1 (by decide +kernel) (by decide +kernel) (by decide +kernel) (by decide +kernel) (by decide +kernel) (by decide +kernel)
theorem allAtoms_all (ts : List Jvm.Cond) (a : Array Jvm.Value) (st : Jvm.State) : (allAtoms ts).before a st = ts.all (fun c => c.before a st) := by
  induction ts with
  | nil => rfl
  | cons c t ih =>
    show (Jvm.Cond.and c (allAtoms t)).before a st = _
    rw [Jvm.Cond.before_and, ih, List.all_cons]
def words1 : List Jvm.Cond := Jvm.Cond.code x code maxLocals ret :: tables_1
/-- a 'code' word, met by the world's own term for the bytes: nothing is compared byte by byte -/
theorem code_word {y : MethodName} {bytes : ByteArray} {mx : Nat} {rt : Option FieldType} {a : Array Value} {s : State} {m : MethodId} {meth : Method} {c : Code} (h1 : s.methodNamed? y = some m) (h2 : s.vm.method? m = some meth) (h3 : meth.code = some c) (h4 : c.code = bytes)
    (h5 : (c.maxLocals == mx && c.exceptionTable.isEmpty && decide (c.maxStack ≤ mostOperands) && decide (meth.sig.returnType = rt) && !meth.locks && decide (parseMethodDescriptor y.desc = some meth.sig)) = true) : (Jvm.Cond.code y bytes mx rt).before a s = true := by
  simp only [Bool.and_eq_true, beq_iff_eq, Bool.not_eq_true', decide_eq_true_eq] at h5
  obtain ⟨⟨⟨⟨⟨g1, g2⟩, g3⟩, g4⟩, g5⟩, g6⟩ := h5
  simp [Cond.before, Cond.holds, Cond.value, h1, h2, h3, h4, g1, g2, g3, g4, g5, g6]
def isCode : Jvm.Cond → Bool
  | .code _ _ _ _ => true
  | _ => false
theorem all_split {L : List Jvm.Cond} {P : Jvm.Cond → Bool} (h1 : L.all (fun c => isCode c || P c) = true) (h2 : ∀ c ∈ L.filter isCode, P c = true) : L.all P = true := by
  refine List.all_eq_true.mpr fun c hc => ?_
  have h := List.all_eq_true.mp h1 c hc
  rcases Bool.eq_false_or_eq_true (isCode c) with hi | hi
  · exact h2 c (List.mem_filter.mpr ⟨hc, hi⟩)
  · simpa [hi] using h
set_option maxRecDepth 65536 in
theorem w_c0 : (Jvm.Cond.code x code maxLocals ret).before args0 about1 = true := code_word (m := ⟨1, 1⟩) (meth := k1m1) (c := k1c1) (by decide +kernel) rfl rfl rfl (by decide +kernel)
set_option maxRecDepth 65536 in
theorem w_c1 : (Jvm.Cond.code ({ cls := "com/example/fat_envelope/fatenvelope/FieldScanner", name := "isTokenCharacter", desc := "(I)Z" } : Jvm.MethodName) prog_37_method_17_code (1 : Nat) (Option.some Jvm.ClassFile.FieldType.boolean)).before args0 about1 = true := code_word (m := ⟨2, 0⟩) (meth := k2m0) (c := k2c0) (by decide +kernel) rfl rfl rfl (by decide +kernel)
set_option maxRecDepth 65536 in
theorem w_c2 : (Jvm.Cond.code ({ cls := "com/example/fat_envelope/fatenvelope/FieldScannerIsTokenCharacterPinLaw", name := "expected", desc := "(I)Z" } : Jvm.MethodName) method_3_code (1 : Nat) (Option.some Jvm.ClassFile.FieldType.boolean)).before args0 about1 = true := code_word (m := ⟨1, 2⟩) (meth := k1m2) (c := k1c2) (by decide +kernel) rfl rfl rfl (by decide +kernel)
def codes1 : List Jvm.Cond := [Jvm.Cond.code x code maxLocals ret, Jvm.Cond.code ({ cls := "com/example/fat_envelope/fatenvelope/FieldScanner", name := "isTokenCharacter", desc := "(I)Z" } : Jvm.MethodName) prog_37_method_17_code (1 : Nat) (Option.some Jvm.ClassFile.FieldType.boolean), Jvm.Cond.code ({ cls := "com/example/fat_envelope/fatenvelope/FieldScannerIsTokenCharacterPinLaw", name := "expected", desc := "(I)Z" } : Jvm.MethodName) method_3_code (1 : Nat) (Option.some Jvm.ClassFile.FieldType.boolean)]
set_option maxRecDepth 65536 in
theorem codes_eq : words1.filter isCode = codes1 := rfl
theorem w_codes : ∀ c ∈ words1.filter isCode, c.before args0 about1 = true := by
  rw [codes_eq]
  intro c hc
  simp only [codes1, List.mem_cons, List.not_mem_nil, or_false] at hc
  rcases hc with rfl | rfl | rfl
  · exact w_c0
  · exact w_c1
  · exact w_c2
set_option maxRecDepth 65536 in
theorem w_t1 : words1.all (fun c => isCode c || c.before args0 about1) = true := by decide +kernel
theorem w_tables : (allAtoms (Jvm.Cond.code x code maxLocals ret :: tables_1)).before args0 about1 = true := by
  rw [allAtoms_all]
  show words1.all (fun c => c.before args0 about1) = true
  refine all_split ?_ w_codes
  rw [w_t1]
set_option maxRecDepth 65536 in
theorem w_case : (Jvm.Cond.and given_1 narrow_1).before args0 about1 = true := by decide +kernel
theorem w_applies : (headSpec (Jvm.Cond.code x code maxLocals ret :: tables_1) room_1).applies x e0.platform about1 = true :=
  (Spec.applies_iff w_frames).mpr ⟨w_running, w_runnable, w_alone, w_named, w_hears, w_ripe, w_room, w_tables⟩
theorem atStart : AtStart classFile x code maxLocals ret World_1 tables_1 room_1 Calls_1 rest_1 Pre_1 launch0 p0 e0 about1 theMethod args0 below0 :=
  ⟨lists_1, trivial, launch0.admits_env _ _ _, launch0.least_env, fairChoices_fair.cas, fairChoices_fair.clock, w_frames, w_args, w_heap, w_applies, trivial, trivial, w_case⟩
end start1
theorem witness_1 : WitnessClaimed_1 := ⟨start1.p0, start1.e0, start1.about1, start1.theMethod, start1.args0, start1.below0, start1.atStart⟩
end Jvm.Pilot.@@N@@
