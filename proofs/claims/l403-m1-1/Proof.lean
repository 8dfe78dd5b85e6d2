import JvmDerived
import JvmDerived.Pilot.@@N@@Statement
import JvmDerived.Pilot.@@N@@Code
set_option linter.unusedVariables false
set_option linter.unusedSimpArgs false
namespace Jvm.RoadKit
open Sem ClassFile Op Lib Jvm.Stand Jvm.Free Jvm.LawKit
section New
variable {p : Program} {l : Launch} {e : Env} {R : Room} {s : State} {m : MethodId} {args : Array Value} {below : List Frame} {meth : Method} {c : Code} {T : State} {locs : List Loc} {cells slots : Nat}
theorem retI (X : Stand p l e R s m args below meth c T locs cells slots) (hx : p.tables.exec = Jvm.exec) {pc : Nat} {Ls : Array Slot} {z : Int32} {rest : List Value} (hret : meth.sig.returnType = some .int) (hd : decode c.code pc = .ok (.ireturn, 1)) {fs : List Frame}
    (hl : ∀ (f : JFrame) (acts : List Action), f.method = m → f.locked = none → f.entered = [] → (doReturn e (T.setTop f) acts (some (.int z))).1 = T.setFrames fs) : Steps p.tables e below (T.setTop (mkF m pc Ls (.int z :: rest))) (T.setFrames fs) :=
  retOut X hx hret rfl (Or.inl ⟨rfl, Or.inl rfl, z, rfl⟩) hd hl
end New
end Jvm.RoadKit
namespace Jvm.Pilot.@@N@@
open Jvm Jvm.ClassFile Sem Op Lib Jvm.Free Jvm.Stand Jvm.LawKit Jvm.RoadKit Bundle Jvm.Pilot.@@N@@.Jvm.D
theorem own_selpriv {s : State} {args : Array Value} {y : MethodName} {n : Nat} (hins : (Jvm.Cond.instantiable y.cls n).before args s = true) (hpriv : (Jvm.Cond.privateMethod y).before args s = true) (hinst : (Jvm.Cond.instanceMethod y).before args s = true) (hy : y.cls ≠ "java/lang/invoke/MethodHandle" ∧ y.cls ≠ "java/lang/invoke/VarHandle") :
    (Jvm.Cond.selects y.cls y y).before args s = true := by
  obtain ⟨c, k, hc, hk, -, hniab, -, -⟩ := Cond.instantiable_spec hins
  have hni : k.isInterface = false := (Bool.or_eq_false_iff.mp hniab).1
  obtain ⟨mk, methM, hnamed, hmethM, -, -⟩ := Cond.instanceMethod_spec hinst
  have hfound : s.methodFound? y.cls y.name y.desc = some mk := State.methodFound?_of_named hnamed hy
  have hcls : mk.cls = c := Option.some.inj ((findClass_of_methodNamed hnamed).symm.trans hc)
  have hsel : selectMethod {} s.vm c mk = .method mk := selectMethod_private hmethM (Cond.privateMethod_at hpriv mk methM hnamed hmethM)
  simp only [Cond.before, Cond.holds, Cond.value, hc, hfound, hnamed, hsel, hcls, hk]
  simp; exact hni
theorem own_nsE {Z : State} {h : Heap} {a : Addr} {C : String} (F : Exa Z h a C) : ∀ c : Cell, h[a]? = some c → c.vm.isStatics = false := by
  obtain ⟨c, k, h1, -, -, h4, -⟩ := F
  intro c' hc; cases h1.symm.trans hc; exact h4
theorem own_nsV {Z : State} {h : Heap} {a : Addr} {k : ClassId} {ty : FieldType} {z : Int32} {vs : List Value} {dv : Value} (F : Arv Z h a k ty z vs dv) : ∀ c : Cell, h[a]? = some c → c.vm.isStatics = false := by
  obtain ⟨c, A, -⟩ := F
  intro c' hc; cases A.1.symm.trans hc; exact A.plain
theorem own_stakeep {Z : State} {h h' : Heap} {C n d : String} {v : Value} {ws : List Addr} (F : Sta Z h C n d v) (K : Keep h h' ws) (q : ∀ x ∈ ws, ∀ c : Cell, h[x]? = some c → c.vm.isStatics = false) : Sta Z h' C n d v := by
  obtain ⟨cf, i, k, f, st, cell, h1, h2, h3, h4, h5, h6, h7⟩ := F
  refine ⟨cf, i, k, f, st, cell, h1, h2, h3, h4, K.2.1 _ _ h5 (fun hm => ?_), h6, h7⟩
  rw [q st hm cell h5] at h6; cases h6
theorem own_ex {args : Array Value} {s : State} {t : Term} {C : String} (h : (Jvm.Cond.exactly t C).value args s none s [] = some true) : ∃ a, t.eval args s none [] s = some (.ref a) ∧ Exa s s.heap a C := by
  obtain ⟨a, e1⟩ := exa_v h; exact ⟨a, e1, Exa.start e1 h⟩
theorem own_evI {args : Array Value} {s : State} {t : Term} {z : Int32} (h : (Jvm.Cond.eq t (.int z)).value args s none s [] = some true) : t.eval args s none [] s = some (.int z) := by
  cases hv : t.eval args s none [] s with
  | none => simp [Cond.value, hv] at h
  | some x => cases x <;> simp [Cond.value, Term.eval, hv] at h ⊢; exact h
theorem own_evJ {args : Array Value} {s : State} {t : Term} {z : Int64} (h : (Jvm.Cond.eq t (.long z)).value args s none s [] = some true) : t.eval args s none [] s = some (.long z) := by
  cases hv : t.eval args s none [] s with
  | none => simp [Cond.value, hv] at h
  | some x => cases x <;> simp [Cond.value, Term.eval, hv] at h ⊢; exact h
theorem own_fldV {args : Array Value} {s : State} {t : Term} {a : Addr} {C n d : String} {v : Value} (ev : t.eval args s none [] s = some (.ref a)) (h : (Term.field t C n d).eval args s none [] s = some v) : Fld s s.heap a C n d v := by
  refine Fld.start ?_
  rw [← fld_at (args := args) (first := s) (o := none) (idx := []) ev]; exact h
theorem own_lt (a b : Int32) : a < b ↔ a.toInt < b.toInt := Int32.lt_iff_toInt_lt
theorem own_le (a b : Int32) : a ≤ b ↔ a.toInt ≤ b.toInt := Int32.le_iff_toInt_le
theorem own_eqi (a b : Int32) : a = b ↔ a.toInt = b.toInt := Int32.toInt_inj.symm
theorem own_ltL (a b : Int64) : a < b ↔ a.toInt < b.toInt := Int64.lt_iff_toInt_lt
theorem own_eqL (a b : Int64) : a = b ↔ a.toInt = b.toInt := Int64.toInt_inj.symm
theorem own_evR {args : Array Value} {s : State} {t u : Term} {a : Addr} (h : (Jvm.Cond.eq t u).value args s none s [] = some true) (hu : u.eval args s none [] s = some (.ref a)) : t.eval args s none [] s = some (.ref a) := by
  cases hv : t.eval args s none [] s with
  | none => simp [Cond.value, hv] at h
  | some x => cases x <;> simp [Cond.value, hu, hv] at h ⊢; exact h
theorem own_len {args : Array Value} {s : State} {t : Term} {a : Addr} {cl : Cell} {z : Int32} (ev : t.eval args s none [] s = some (.ref a)) (hc : s.arrayAt? a = some cl) (h : (Term.length t).eval args s none [] s = some (.int z)) : cl.slots.size < 2 ^ 31 ∧ cl.slots.size.toInt32 = z := by
  by_cases q : cl.slots.size < 2147483648
  · simp [Term.eval, ev, hc, q] at h; exact ⟨q, h⟩
  · simp [Term.eval, ev, hc, q] at h
theorem pn_0 : plainName "com/example/fat_envelope/fatenvelope/QuotedPrintableOutputStream" = true := by first | (simp [plainName, overriddenIn]; done) | decide +kernel
theorem d1_0 : decode prog_83_method_2_code 0 = .ok (.iload_n 0, 1) := by decide +kernel
theorem d1_1 : decode prog_83_method_2_code 1 = .ok (.bipush 33, 2) := by decide +kernel
theorem d1_3 : decode prog_83_method_2_code 3 = .ok (.if_icmp .lt 15, 3) := by decide +kernel
theorem d1_6 : decode prog_83_method_2_code 6 = .ok (.iload_n 0, 1) := by decide +kernel
theorem d1_7 : decode prog_83_method_2_code 7 = .ok (.bipush 126, 2) := by decide +kernel
theorem d1_9 : decode prog_83_method_2_code 9 = .ok (.if_icmp .gt 9, 3) := by decide +kernel
theorem d1_12 : decode prog_83_method_2_code 12 = .ok (.iload_n 0, 1) := by decide +kernel
theorem d1_13 : decode prog_83_method_2_code 13 = .ok (.bipush 61, 2) := by decide +kernel
theorem d1_15 : decode prog_83_method_2_code 15 = .ok (.if_icmp .ne 19, 3) := by decide +kernel
theorem d1_18 : decode prog_83_method_2_code 18 = .ok (.iload_n 0, 1) := by decide +kernel
theorem d1_19 : decode prog_83_method_2_code 19 = .ok (.bipush 32, 2) := by decide +kernel
theorem d1_21 : decode prog_83_method_2_code 21 = .ok (.if_icmp .eq 13, 3) := by decide +kernel
theorem d1_24 : decode prog_83_method_2_code 24 = .ok (.iload_n 0, 1) := by decide +kernel
theorem d1_25 : decode prog_83_method_2_code 25 = .ok (.bipush 9, 2) := by decide +kernel
theorem d1_27 : decode prog_83_method_2_code 27 = .ok (.if_icmp .eq 7, 3) := by decide +kernel
theorem d1_30 : decode prog_83_method_2_code 30 = .ok (.iconst 1, 1) := by decide +kernel
theorem d1_31 : decode prog_83_method_2_code 31 = .ok (.goto 4, 3) := by decide +kernel
theorem d1_34 : decode prog_83_method_2_code 34 = .ok (.iconst 0, 1) := by decide +kernel
theorem d1_35 : decode prog_83_method_2_code 35 = .ok (.ireturn, 1) := by decide +kernel
theorem ef_1 (m : MethodId) (p1_0 : Int32) : entryFrame m #[(.int p1_0)] 1 = mkF m 0 #[.val (.int p1_0)] [] := by first | (simp [entryFrame, mkF, argsToLocals, Value.category]; done) | rfl
def own_esc (p1_0 : Int32) : Int32 := (if p1_0 < (33 : Int32) then (if p1_0 = (32 : Int32) then (0 : Int32) else (if p1_0 = (9 : Int32) then (0 : Int32) else (1 : Int32))) else (if (126 : Int32) < p1_0 then (if p1_0 = (32 : Int32) then (0 : Int32) else (if p1_0 = (9 : Int32) then (0 : Int32) else (1 : Int32))) else (if p1_0 = (61 : Int32) then (if p1_0 = (32 : Int32) then (0 : Int32) else (if p1_0 = (9 : Int32) then (0 : Int32) else (1 : Int32))) else (0 : Int32))))
def Q1 (Z : State) (p1_0 : Int32) (h0 : Heap) (n0 : Nat) (v : Option Value) (h : Heap) (L : List Loc) : Prop := v = some (.int (own_esc p1_0)) ∧ Fr n0 L ∧ h = h0
set_option maxRecDepth 65536 in
set_option maxHeartbeats 40000000 in
theorem rm1 (l : Launch) (Z : State) (a0 : Array Value) (hw : ∀ d ∈ tables_1, d.before a0 Z = true) (ws : List Jvm.Cond) (p1_0 : Int32) (h0 : Heap) (n0 : Nat) (Z0 : n0 ≤ h0.size) :
    MetFree l (⟨"com/example/fat_envelope/fatenvelope/QuotedPrintableOutputStream", "alwaysEscapes", "(I)Z"⟩ : MethodName) (head1 (Jvm.Cond.code (⟨"com/example/fat_envelope/fatenvelope/QuotedPrintableOutputStream", "alwaysEscapes", "(I)Z"⟩ : MethodName) prog_83_method_2_code 1 (some .boolean) :: ws) ({ frames := 0, cells := 0, slots := 0, locals := 0 } : Room)) (fun a U => a = #[(.int p1_0)] ∧ Z.Warmed39 U.vm ∧ U.heap = h0) (fun _ _ _ _ _ => True) (fun _ U o U' => ∃ v L, o = .returned v ∧ Q1 Z p1_0 h0 n0 v U'.heap L ∧ FrameEnd U o U' L ({ frames := 0, cells := 0, slots := 0, locals := 0 } : Room).cells ({ frames := 0, cells := 0, slots := 0, locals := 0 } : Room).slots) := by
  refine MetFree.of_bodySF (plainFor_of_name pn_0) hisR ?_
  intro p e s m args below meth c s₁ Bd hml0 hP hK
  obtain ⟨rfl, hZ, hh⟩ := hP
  have hx := Bd.exec
  have hby := Bd.bytes
  have hml : c.maxLocals = 1 := hml0
  have hown : s.vm.findClass "com/example/fat_envelope/fatenvelope/QuotedPrintableOutputStream" = some m.cls := findClass_of_methodNamed Bd.named
  have hnm := (name_of_methodNamed Bd.named Bd.method).1
  have X0 : Stand p l e ({ frames := 0, cells := 0, slots := 0, locals := 0 } : Room) s m #[(.int p1_0)] below meth c s₁ [] 0 0 := Stand.of_body Bd
  have e0 : s₁.heap = h0 := by rw [← hh, Bd.state]; rfl
  have N0 := Fr.nil n0
  have pre0 : ∀ t, Steps p.tables e below (s₁.setTop (mkF m 0 #[.val (.int p1_0)] [])) t → Steps p.tables e below (s₁.setTop (entryFrame m #[(.int p1_0)] 1)) t := fun t k => castTop (ef_1 m p1_0) k
  have k1 : ∀ t, Steps p.tables e below (s₁.setTop (mkF m 3 #[.val (.int p1_0)] [(.int (33 : Int32)), (.int p1_0)])) t → Steps p.tables e below (s₁.setTop (entryFrame m #[(.int p1_0)] 1)) t := by
    intro t k
    refine pre0 t ?_
    show Steps p.tables e below (s₁.setTop (mkF m 0 #[.val (.int p1_0)] [])) _
    refine XS.iloadN X0.here hx rfl (hb hby d1_0) rfl ?_
    show Steps p.tables e below (s₁.setTop (mkF m 1 #[.val (.int p1_0)] [(.int p1_0)])) _
    refine XS.bipush X0.here hx rfl (hb hby d1_1) ?_
    exact k
  by_cases hc3_2 : p1_0 < (33 : Int32)
  · skip
    have k3 : ∀ t, Steps p.tables e below (s₁.setTop (mkF m 21 #[.val (.int p1_0)] [(.int (32 : Int32)), (.int p1_0)])) t → Steps p.tables e below (s₁.setTop (entryFrame m #[(.int p1_0)] 1)) t := by
      intro t k
      refine k1 t ?_
      show Steps p.tables e below (s₁.setTop (mkF m 3 #[.val (.int p1_0)] [(.int (33 : Int32)), (.int p1_0)])) _
      refine XS.icmpYes X0.here hx rfl (pc0 := 3) (pc' := 18) rfl (hb hby d1_3) rfl (tlt hc3_2).1 (by decide) (by decide) ?_
      show Steps p.tables e below (s₁.setTop (mkF m 18 #[.val (.int p1_0)] [])) _
      refine XS.iloadN X0.here hx rfl (hb hby d1_18) rfl ?_
      show Steps p.tables e below (s₁.setTop (mkF m 19 #[.val (.int p1_0)] [(.int p1_0)])) _
      refine XS.bipush X0.here hx rfl (hb hby d1_19) ?_
      exact k
    by_cases hc21_4 : p1_0 = (32 : Int32)
    · skip
      have k5 : ∀ t, Steps p.tables e below (s₁.setTop (mkF m 35 #[.val (.int p1_0)] [(.int (0 : Int32))])) t → Steps p.tables e below (s₁.setTop (entryFrame m #[(.int p1_0)] 1)) t := by
        intro t k
        refine k3 t ?_
        show Steps p.tables e below (s₁.setTop (mkF m 21 #[.val (.int p1_0)] [(.int (32 : Int32)), (.int p1_0)])) _
        refine XS.icmpYes X0.here hx rfl (pc0 := 21) (pc' := 34) rfl (hb hby d1_21) rfl (teq hc21_4).1 (by decide) (by decide) ?_
        show Steps p.tables e below (s₁.setTop (mkF m 34 #[.val (.int p1_0)] [])) _
        refine XS.iconst X0.here hx rfl (hb hby d1_34) ?_
        exact k
      obtain ⟨fs, hr, hrun, hended, hW, hsame⟩ := X0.leave (v := some (.int (0 : Int32))) (fun h => by rw [Bd.returns] at h; cases h)
      refine ⟨_, _, k5 _ ?_, hrun, hended, _, _, rfl, ?_, ⟨_, rfl⟩, hW, hsame.mono (by decide) (by decide)⟩
      · exact retN X0 hx (t := .boolean) Bd.returns (by simp) (hb hby d1_35) hr
      · show Q1 Z p1_0 h0 n0 _ s₁.heap _
        rw [e0]
        exact ⟨congrArg (fun z => some (Value.int z)) (show ((0 : Int32) : Int32) = own_esc p1_0 from by unfold own_esc; rw [if_pos hc3_2, if_pos hc21_4]), N0, rfl⟩
    · skip
      have k6 : ∀ t, Steps p.tables e below (s₁.setTop (mkF m 27 #[.val (.int p1_0)] [(.int (9 : Int32)), (.int p1_0)])) t → Steps p.tables e below (s₁.setTop (entryFrame m #[(.int p1_0)] 1)) t := by
        intro t k
        refine k3 t ?_
        show Steps p.tables e below (s₁.setTop (mkF m 21 #[.val (.int p1_0)] [(.int (32 : Int32)), (.int p1_0)])) _
        refine XS.icmpNo X0.here hx rfl (hb hby d1_21) rfl (feq hc21_4).1 ?_
        show Steps p.tables e below (s₁.setTop (mkF m 24 #[.val (.int p1_0)] [])) _
        refine XS.iloadN X0.here hx rfl (hb hby d1_24) rfl ?_
        show Steps p.tables e below (s₁.setTop (mkF m 25 #[.val (.int p1_0)] [(.int p1_0)])) _
        refine XS.bipush X0.here hx rfl (hb hby d1_25) ?_
        exact k
      by_cases hc27_7 : p1_0 = (9 : Int32)
      · skip
        have k8 : ∀ t, Steps p.tables e below (s₁.setTop (mkF m 35 #[.val (.int p1_0)] [(.int (0 : Int32))])) t → Steps p.tables e below (s₁.setTop (entryFrame m #[(.int p1_0)] 1)) t := by
          intro t k
          refine k6 t ?_
          show Steps p.tables e below (s₁.setTop (mkF m 27 #[.val (.int p1_0)] [(.int (9 : Int32)), (.int p1_0)])) _
          refine XS.icmpYes X0.here hx rfl (pc0 := 27) (pc' := 34) rfl (hb hby d1_27) rfl (teq hc27_7).1 (by decide) (by decide) ?_
          show Steps p.tables e below (s₁.setTop (mkF m 34 #[.val (.int p1_0)] [])) _
          refine XS.iconst X0.here hx rfl (hb hby d1_34) ?_
          exact k
        obtain ⟨fs, hr, hrun, hended, hW, hsame⟩ := X0.leave (v := some (.int (0 : Int32))) (fun h => by rw [Bd.returns] at h; cases h)
        refine ⟨_, _, k8 _ ?_, hrun, hended, _, _, rfl, ?_, ⟨_, rfl⟩, hW, hsame.mono (by decide) (by decide)⟩
        · exact retN X0 hx (t := .boolean) Bd.returns (by simp) (hb hby d1_35) hr
        · show Q1 Z p1_0 h0 n0 _ s₁.heap _
          rw [e0]
          exact ⟨congrArg (fun z => some (Value.int z)) (show ((0 : Int32) : Int32) = own_esc p1_0 from by unfold own_esc; rw [if_pos hc3_2, if_neg hc21_4, if_pos hc27_7]), N0, rfl⟩
      · skip
        have k9 : ∀ t, Steps p.tables e below (s₁.setTop (mkF m 35 #[.val (.int p1_0)] [(.int (1 : Int32))])) t → Steps p.tables e below (s₁.setTop (entryFrame m #[(.int p1_0)] 1)) t := by
          intro t k
          refine k6 t ?_
          show Steps p.tables e below (s₁.setTop (mkF m 27 #[.val (.int p1_0)] [(.int (9 : Int32)), (.int p1_0)])) _
          refine XS.icmpNo X0.here hx rfl (hb hby d1_27) rfl (feq hc27_7).1 ?_
          show Steps p.tables e below (s₁.setTop (mkF m 30 #[.val (.int p1_0)] [])) _
          refine XS.iconst X0.here hx rfl (hb hby d1_30) ?_
          show Steps p.tables e below (s₁.setTop (mkF m 31 #[.val (.int p1_0)] [(.int (1 : Int32))])) _
          refine XS.goto X0.here hx rfl (pc0 := 31) (pc' := 35) rfl (hb hby d1_31) (by decide) (by decide) ?_
          exact k
        obtain ⟨fs, hr, hrun, hended, hW, hsame⟩ := X0.leave (v := some (.int (1 : Int32))) (fun h => by rw [Bd.returns] at h; cases h)
        refine ⟨_, _, k9 _ ?_, hrun, hended, _, _, rfl, ?_, ⟨_, rfl⟩, hW, hsame.mono (by decide) (by decide)⟩
        · exact retN X0 hx (t := .boolean) Bd.returns (by simp) (hb hby d1_35) hr
        · show Q1 Z p1_0 h0 n0 _ s₁.heap _
          rw [e0]
          exact ⟨congrArg (fun z => some (Value.int z)) (show ((1 : Int32) : Int32) = own_esc p1_0 from by unfold own_esc; rw [if_pos hc3_2, if_neg hc21_4, if_neg hc27_7]), N0, rfl⟩
  · skip
    have k10 : ∀ t, Steps p.tables e below (s₁.setTop (mkF m 9 #[.val (.int p1_0)] [(.int (126 : Int32)), (.int p1_0)])) t → Steps p.tables e below (s₁.setTop (entryFrame m #[(.int p1_0)] 1)) t := by
      intro t k
      refine k1 t ?_
      show Steps p.tables e below (s₁.setTop (mkF m 3 #[.val (.int p1_0)] [(.int (33 : Int32)), (.int p1_0)])) _
      refine XS.icmpNo X0.here hx rfl (hb hby d1_3) rfl (flt hc3_2).1 ?_
      show Steps p.tables e below (s₁.setTop (mkF m 6 #[.val (.int p1_0)] [])) _
      refine XS.iloadN X0.here hx rfl (hb hby d1_6) rfl ?_
      show Steps p.tables e below (s₁.setTop (mkF m 7 #[.val (.int p1_0)] [(.int p1_0)])) _
      refine XS.bipush X0.here hx rfl (hb hby d1_7) ?_
      exact k
    by_cases hc9_11 : (126 : Int32) < p1_0
    · skip
      have k12 : ∀ t, Steps p.tables e below (s₁.setTop (mkF m 21 #[.val (.int p1_0)] [(.int (32 : Int32)), (.int p1_0)])) t → Steps p.tables e below (s₁.setTop (entryFrame m #[(.int p1_0)] 1)) t := by
        intro t k
        refine k10 t ?_
        show Steps p.tables e below (s₁.setTop (mkF m 9 #[.val (.int p1_0)] [(.int (126 : Int32)), (.int p1_0)])) _
        refine XS.icmpYes X0.here hx rfl (pc0 := 9) (pc' := 18) rfl (hb hby d1_9) rfl (tlt hc9_11).2.2.1 (by decide) (by decide) ?_
        show Steps p.tables e below (s₁.setTop (mkF m 18 #[.val (.int p1_0)] [])) _
        refine XS.iloadN X0.here hx rfl (hb hby d1_18) rfl ?_
        show Steps p.tables e below (s₁.setTop (mkF m 19 #[.val (.int p1_0)] [(.int p1_0)])) _
        refine XS.bipush X0.here hx rfl (hb hby d1_19) ?_
        exact k
      by_cases hc21_13 : p1_0 = (32 : Int32)
      · skip
        have k14 : ∀ t, Steps p.tables e below (s₁.setTop (mkF m 35 #[.val (.int p1_0)] [(.int (0 : Int32))])) t → Steps p.tables e below (s₁.setTop (entryFrame m #[(.int p1_0)] 1)) t := by
          intro t k
          refine k12 t ?_
          show Steps p.tables e below (s₁.setTop (mkF m 21 #[.val (.int p1_0)] [(.int (32 : Int32)), (.int p1_0)])) _
          refine XS.icmpYes X0.here hx rfl (pc0 := 21) (pc' := 34) rfl (hb hby d1_21) rfl (teq hc21_13).1 (by decide) (by decide) ?_
          show Steps p.tables e below (s₁.setTop (mkF m 34 #[.val (.int p1_0)] [])) _
          refine XS.iconst X0.here hx rfl (hb hby d1_34) ?_
          exact k
        obtain ⟨fs, hr, hrun, hended, hW, hsame⟩ := X0.leave (v := some (.int (0 : Int32))) (fun h => by rw [Bd.returns] at h; cases h)
        refine ⟨_, _, k14 _ ?_, hrun, hended, _, _, rfl, ?_, ⟨_, rfl⟩, hW, hsame.mono (by decide) (by decide)⟩
        · exact retN X0 hx (t := .boolean) Bd.returns (by simp) (hb hby d1_35) hr
        · show Q1 Z p1_0 h0 n0 _ s₁.heap _
          rw [e0]
          exact ⟨congrArg (fun z => some (Value.int z)) (show ((0 : Int32) : Int32) = own_esc p1_0 from by unfold own_esc; rw [if_neg hc3_2, if_pos hc9_11, if_pos hc21_13]), N0, rfl⟩
      · skip
        have k15 : ∀ t, Steps p.tables e below (s₁.setTop (mkF m 27 #[.val (.int p1_0)] [(.int (9 : Int32)), (.int p1_0)])) t → Steps p.tables e below (s₁.setTop (entryFrame m #[(.int p1_0)] 1)) t := by
          intro t k
          refine k12 t ?_
          show Steps p.tables e below (s₁.setTop (mkF m 21 #[.val (.int p1_0)] [(.int (32 : Int32)), (.int p1_0)])) _
          refine XS.icmpNo X0.here hx rfl (hb hby d1_21) rfl (feq hc21_13).1 ?_
          show Steps p.tables e below (s₁.setTop (mkF m 24 #[.val (.int p1_0)] [])) _
          refine XS.iloadN X0.here hx rfl (hb hby d1_24) rfl ?_
          show Steps p.tables e below (s₁.setTop (mkF m 25 #[.val (.int p1_0)] [(.int p1_0)])) _
          refine XS.bipush X0.here hx rfl (hb hby d1_25) ?_
          exact k
        by_cases hc27_16 : p1_0 = (9 : Int32)
        · skip
          have k17 : ∀ t, Steps p.tables e below (s₁.setTop (mkF m 35 #[.val (.int p1_0)] [(.int (0 : Int32))])) t → Steps p.tables e below (s₁.setTop (entryFrame m #[(.int p1_0)] 1)) t := by
            intro t k
            refine k15 t ?_
            show Steps p.tables e below (s₁.setTop (mkF m 27 #[.val (.int p1_0)] [(.int (9 : Int32)), (.int p1_0)])) _
            refine XS.icmpYes X0.here hx rfl (pc0 := 27) (pc' := 34) rfl (hb hby d1_27) rfl (teq hc27_16).1 (by decide) (by decide) ?_
            show Steps p.tables e below (s₁.setTop (mkF m 34 #[.val (.int p1_0)] [])) _
            refine XS.iconst X0.here hx rfl (hb hby d1_34) ?_
            exact k
          obtain ⟨fs, hr, hrun, hended, hW, hsame⟩ := X0.leave (v := some (.int (0 : Int32))) (fun h => by rw [Bd.returns] at h; cases h)
          refine ⟨_, _, k17 _ ?_, hrun, hended, _, _, rfl, ?_, ⟨_, rfl⟩, hW, hsame.mono (by decide) (by decide)⟩
          · exact retN X0 hx (t := .boolean) Bd.returns (by simp) (hb hby d1_35) hr
          · show Q1 Z p1_0 h0 n0 _ s₁.heap _
            rw [e0]
            exact ⟨congrArg (fun z => some (Value.int z)) (show ((0 : Int32) : Int32) = own_esc p1_0 from by unfold own_esc; rw [if_neg hc3_2, if_pos hc9_11, if_neg hc21_13, if_pos hc27_16]), N0, rfl⟩
        · skip
          have k18 : ∀ t, Steps p.tables e below (s₁.setTop (mkF m 35 #[.val (.int p1_0)] [(.int (1 : Int32))])) t → Steps p.tables e below (s₁.setTop (entryFrame m #[(.int p1_0)] 1)) t := by
            intro t k
            refine k15 t ?_
            show Steps p.tables e below (s₁.setTop (mkF m 27 #[.val (.int p1_0)] [(.int (9 : Int32)), (.int p1_0)])) _
            refine XS.icmpNo X0.here hx rfl (hb hby d1_27) rfl (feq hc27_16).1 ?_
            show Steps p.tables e below (s₁.setTop (mkF m 30 #[.val (.int p1_0)] [])) _
            refine XS.iconst X0.here hx rfl (hb hby d1_30) ?_
            show Steps p.tables e below (s₁.setTop (mkF m 31 #[.val (.int p1_0)] [(.int (1 : Int32))])) _
            refine XS.goto X0.here hx rfl (pc0 := 31) (pc' := 35) rfl (hb hby d1_31) (by decide) (by decide) ?_
            exact k
          obtain ⟨fs, hr, hrun, hended, hW, hsame⟩ := X0.leave (v := some (.int (1 : Int32))) (fun h => by rw [Bd.returns] at h; cases h)
          refine ⟨_, _, k18 _ ?_, hrun, hended, _, _, rfl, ?_, ⟨_, rfl⟩, hW, hsame.mono (by decide) (by decide)⟩
          · exact retN X0 hx (t := .boolean) Bd.returns (by simp) (hb hby d1_35) hr
          · show Q1 Z p1_0 h0 n0 _ s₁.heap _
            rw [e0]
            exact ⟨congrArg (fun z => some (Value.int z)) (show ((1 : Int32) : Int32) = own_esc p1_0 from by unfold own_esc; rw [if_neg hc3_2, if_pos hc9_11, if_neg hc21_13, if_neg hc27_16]), N0, rfl⟩
    · skip
      have k19 : ∀ t, Steps p.tables e below (s₁.setTop (mkF m 15 #[.val (.int p1_0)] [(.int (61 : Int32)), (.int p1_0)])) t → Steps p.tables e below (s₁.setTop (entryFrame m #[(.int p1_0)] 1)) t := by
        intro t k
        refine k10 t ?_
        show Steps p.tables e below (s₁.setTop (mkF m 9 #[.val (.int p1_0)] [(.int (126 : Int32)), (.int p1_0)])) _
        refine XS.icmpNo X0.here hx rfl (hb hby d1_9) rfl (flt hc9_11).2.2.1 ?_
        show Steps p.tables e below (s₁.setTop (mkF m 12 #[.val (.int p1_0)] [])) _
        refine XS.iloadN X0.here hx rfl (hb hby d1_12) rfl ?_
        show Steps p.tables e below (s₁.setTop (mkF m 13 #[.val (.int p1_0)] [(.int p1_0)])) _
        refine XS.bipush X0.here hx rfl (hb hby d1_13) ?_
        exact k
      by_cases hc15_20 : p1_0 = (61 : Int32)
      · skip
        have k21 : ∀ t, Steps p.tables e below (s₁.setTop (mkF m 21 #[.val (.int p1_0)] [(.int (32 : Int32)), (.int p1_0)])) t → Steps p.tables e below (s₁.setTop (entryFrame m #[(.int p1_0)] 1)) t := by
          intro t k
          refine k19 t ?_
          show Steps p.tables e below (s₁.setTop (mkF m 15 #[.val (.int p1_0)] [(.int (61 : Int32)), (.int p1_0)])) _
          refine XS.icmpNo X0.here hx rfl (hb hby d1_15) rfl (teq hc15_20).2 ?_
          show Steps p.tables e below (s₁.setTop (mkF m 18 #[.val (.int p1_0)] [])) _
          refine XS.iloadN X0.here hx rfl (hb hby d1_18) rfl ?_
          show Steps p.tables e below (s₁.setTop (mkF m 19 #[.val (.int p1_0)] [(.int p1_0)])) _
          refine XS.bipush X0.here hx rfl (hb hby d1_19) ?_
          exact k
        by_cases hc21_22 : p1_0 = (32 : Int32)
        · skip
          have k23 : ∀ t, Steps p.tables e below (s₁.setTop (mkF m 35 #[.val (.int p1_0)] [(.int (0 : Int32))])) t → Steps p.tables e below (s₁.setTop (entryFrame m #[(.int p1_0)] 1)) t := by
            intro t k
            refine k21 t ?_
            show Steps p.tables e below (s₁.setTop (mkF m 21 #[.val (.int p1_0)] [(.int (32 : Int32)), (.int p1_0)])) _
            refine XS.icmpYes X0.here hx rfl (pc0 := 21) (pc' := 34) rfl (hb hby d1_21) rfl (teq hc21_22).1 (by decide) (by decide) ?_
            show Steps p.tables e below (s₁.setTop (mkF m 34 #[.val (.int p1_0)] [])) _
            refine XS.iconst X0.here hx rfl (hb hby d1_34) ?_
            exact k
          obtain ⟨fs, hr, hrun, hended, hW, hsame⟩ := X0.leave (v := some (.int (0 : Int32))) (fun h => by rw [Bd.returns] at h; cases h)
          refine ⟨_, _, k23 _ ?_, hrun, hended, _, _, rfl, ?_, ⟨_, rfl⟩, hW, hsame.mono (by decide) (by decide)⟩
          · exact retN X0 hx (t := .boolean) Bd.returns (by simp) (hb hby d1_35) hr
          · show Q1 Z p1_0 h0 n0 _ s₁.heap _
            rw [e0]
            exact ⟨congrArg (fun z => some (Value.int z)) (show ((0 : Int32) : Int32) = own_esc p1_0 from by unfold own_esc; rw [if_neg hc3_2, if_neg hc9_11, if_pos hc15_20, if_pos hc21_22]), N0, rfl⟩
        · skip
          have k24 : ∀ t, Steps p.tables e below (s₁.setTop (mkF m 27 #[.val (.int p1_0)] [(.int (9 : Int32)), (.int p1_0)])) t → Steps p.tables e below (s₁.setTop (entryFrame m #[(.int p1_0)] 1)) t := by
            intro t k
            refine k21 t ?_
            show Steps p.tables e below (s₁.setTop (mkF m 21 #[.val (.int p1_0)] [(.int (32 : Int32)), (.int p1_0)])) _
            refine XS.icmpNo X0.here hx rfl (hb hby d1_21) rfl (feq hc21_22).1 ?_
            show Steps p.tables e below (s₁.setTop (mkF m 24 #[.val (.int p1_0)] [])) _
            refine XS.iloadN X0.here hx rfl (hb hby d1_24) rfl ?_
            show Steps p.tables e below (s₁.setTop (mkF m 25 #[.val (.int p1_0)] [(.int p1_0)])) _
            refine XS.bipush X0.here hx rfl (hb hby d1_25) ?_
            exact k
          by_cases hc27_25 : p1_0 = (9 : Int32)
          · skip
            have k26 : ∀ t, Steps p.tables e below (s₁.setTop (mkF m 35 #[.val (.int p1_0)] [(.int (0 : Int32))])) t → Steps p.tables e below (s₁.setTop (entryFrame m #[(.int p1_0)] 1)) t := by
              intro t k
              refine k24 t ?_
              show Steps p.tables e below (s₁.setTop (mkF m 27 #[.val (.int p1_0)] [(.int (9 : Int32)), (.int p1_0)])) _
              refine XS.icmpYes X0.here hx rfl (pc0 := 27) (pc' := 34) rfl (hb hby d1_27) rfl (teq hc27_25).1 (by decide) (by decide) ?_
              show Steps p.tables e below (s₁.setTop (mkF m 34 #[.val (.int p1_0)] [])) _
              refine XS.iconst X0.here hx rfl (hb hby d1_34) ?_
              exact k
            obtain ⟨fs, hr, hrun, hended, hW, hsame⟩ := X0.leave (v := some (.int (0 : Int32))) (fun h => by rw [Bd.returns] at h; cases h)
            refine ⟨_, _, k26 _ ?_, hrun, hended, _, _, rfl, ?_, ⟨_, rfl⟩, hW, hsame.mono (by decide) (by decide)⟩
            · exact retN X0 hx (t := .boolean) Bd.returns (by simp) (hb hby d1_35) hr
            · show Q1 Z p1_0 h0 n0 _ s₁.heap _
              rw [e0]
              exact ⟨congrArg (fun z => some (Value.int z)) (show ((0 : Int32) : Int32) = own_esc p1_0 from by unfold own_esc; rw [if_neg hc3_2, if_neg hc9_11, if_pos hc15_20, if_neg hc21_22, if_pos hc27_25]), N0, rfl⟩
          · skip
            have k27 : ∀ t, Steps p.tables e below (s₁.setTop (mkF m 35 #[.val (.int p1_0)] [(.int (1 : Int32))])) t → Steps p.tables e below (s₁.setTop (entryFrame m #[(.int p1_0)] 1)) t := by
              intro t k
              refine k24 t ?_
              show Steps p.tables e below (s₁.setTop (mkF m 27 #[.val (.int p1_0)] [(.int (9 : Int32)), (.int p1_0)])) _
              refine XS.icmpNo X0.here hx rfl (hb hby d1_27) rfl (feq hc27_25).1 ?_
              show Steps p.tables e below (s₁.setTop (mkF m 30 #[.val (.int p1_0)] [])) _
              refine XS.iconst X0.here hx rfl (hb hby d1_30) ?_
              show Steps p.tables e below (s₁.setTop (mkF m 31 #[.val (.int p1_0)] [(.int (1 : Int32))])) _
              refine XS.goto X0.here hx rfl (pc0 := 31) (pc' := 35) rfl (hb hby d1_31) (by decide) (by decide) ?_
              exact k
            obtain ⟨fs, hr, hrun, hended, hW, hsame⟩ := X0.leave (v := some (.int (1 : Int32))) (fun h => by rw [Bd.returns] at h; cases h)
            refine ⟨_, _, k27 _ ?_, hrun, hended, _, _, rfl, ?_, ⟨_, rfl⟩, hW, hsame.mono (by decide) (by decide)⟩
            · exact retN X0 hx (t := .boolean) Bd.returns (by simp) (hb hby d1_35) hr
            · show Q1 Z p1_0 h0 n0 _ s₁.heap _
              rw [e0]
              exact ⟨congrArg (fun z => some (Value.int z)) (show ((1 : Int32) : Int32) = own_esc p1_0 from by unfold own_esc; rw [if_neg hc3_2, if_neg hc9_11, if_pos hc15_20, if_neg hc21_22, if_neg hc27_25]), N0, rfl⟩
      · skip
        have k28 : ∀ t, Steps p.tables e below (s₁.setTop (mkF m 35 #[.val (.int p1_0)] [(.int (0 : Int32))])) t → Steps p.tables e below (s₁.setTop (entryFrame m #[(.int p1_0)] 1)) t := by
          intro t k
          refine k19 t ?_
          show Steps p.tables e below (s₁.setTop (mkF m 15 #[.val (.int p1_0)] [(.int (61 : Int32)), (.int p1_0)])) _
          refine XS.icmpYes X0.here hx rfl (pc0 := 15) (pc' := 34) rfl (hb hby d1_15) rfl (feq hc15_20).2 (by decide) (by decide) ?_
          show Steps p.tables e below (s₁.setTop (mkF m 34 #[.val (.int p1_0)] [])) _
          refine XS.iconst X0.here hx rfl (hb hby d1_34) ?_
          exact k
        obtain ⟨fs, hr, hrun, hended, hW, hsame⟩ := X0.leave (v := some (.int (0 : Int32))) (fun h => by rw [Bd.returns] at h; cases h)
        refine ⟨_, _, k28 _ ?_, hrun, hended, _, _, rfl, ?_, ⟨_, rfl⟩, hW, hsame.mono (by decide) (by decide)⟩
        · exact retN X0 hx (t := .boolean) Bd.returns (by simp) (hb hby d1_35) hr
        · show Q1 Z p1_0 h0 n0 _ s₁.heap _
          rw [e0]
          exact ⟨congrArg (fun z => some (Value.int z)) (show ((0 : Int32) : Int32) = own_esc p1_0 from by unfold own_esc; rw [if_neg hc3_2, if_neg hc9_11, if_neg hc15_20]), N0, rfl⟩
theorem pn_1 : plainName "com/example/fat_envelope/fatenvelope/QuotedPrintableOutputStreamAlwaysEscapesPinLaw" = true := by first | (simp [plainName, overriddenIn]; done) | decide +kernel
theorem d2_0 : decode method_2_code 0 = .ok (.iload_n 0, 1) := by decide +kernel
theorem d2_1 : decode method_2_code 1 = .ok (.bipush 33, 2) := by decide +kernel
theorem d2_3 : decode method_2_code 3 = .ok (.if_icmp .lt 13, 3) := by decide +kernel
theorem d2_6 : decode method_2_code 6 = .ok (.iload_n 0, 1) := by decide +kernel
theorem d2_7 : decode method_2_code 7 = .ok (.bipush 126, 2) := by decide +kernel
theorem d2_9 : decode method_2_code 9 = .ok (.if_icmp .gt 7, 3) := by decide +kernel
theorem d2_12 : decode method_2_code 12 = .ok (.iconst 1, 1) := by decide +kernel
theorem d2_13 : decode method_2_code 13 = .ok (.goto 4, 3) := by decide +kernel
theorem d2_16 : decode method_2_code 16 = .ok (.iconst 0, 1) := by decide +kernel
theorem d2_17 : decode method_2_code 17 = .ok (.istore_n 1, 1) := by decide +kernel
theorem d2_18 : decode method_2_code 18 = .ok (.iload_n 1, 1) := by decide +kernel
theorem d2_19 : decode method_2_code 19 = .ok (.ifCond .eq 9, 3) := by decide +kernel
theorem d2_22 : decode method_2_code 22 = .ok (.iload_n 0, 1) := by decide +kernel
theorem d2_23 : decode method_2_code 23 = .ok (.bipush 61, 2) := by decide +kernel
theorem d2_25 : decode method_2_code 25 = .ok (.if_icmp .ne 15, 3) := by decide +kernel
theorem d2_28 : decode method_2_code 28 = .ok (.iload_n 0, 1) := by decide +kernel
theorem d2_29 : decode method_2_code 29 = .ok (.bipush 32, 2) := by decide +kernel
theorem d2_31 : decode method_2_code 31 = .ok (.if_icmp .eq 9, 3) := by decide +kernel
theorem d2_34 : decode method_2_code 34 = .ok (.iload_n 0, 1) := by decide +kernel
theorem d2_35 : decode method_2_code 35 = .ok (.bipush 9, 2) := by decide +kernel
theorem d2_37 : decode method_2_code 37 = .ok (.if_icmp .ne 7, 3) := by decide +kernel
theorem d2_40 : decode method_2_code 40 = .ok (.iconst 1, 1) := by decide +kernel
theorem d2_41 : decode method_2_code 41 = .ok (.goto 4, 3) := by decide +kernel
theorem d2_44 : decode method_2_code 44 = .ok (.iconst 0, 1) := by decide +kernel
theorem d2_45 : decode method_2_code 45 = .ok (.istore_n 2, 1) := by decide +kernel
theorem d2_46 : decode method_2_code 46 = .ok (.iload_n 2, 1) := by decide +kernel
theorem d2_47 : decode method_2_code 47 = .ok (.ifCond .ne 7, 3) := by decide +kernel
theorem d2_50 : decode method_2_code 50 = .ok (.iconst 1, 1) := by decide +kernel
theorem d2_51 : decode method_2_code 51 = .ok (.goto 4, 3) := by decide +kernel
theorem d2_54 : decode method_2_code 54 = .ok (.iconst 0, 1) := by decide +kernel
theorem d2_55 : decode method_2_code 55 = .ok (.ireturn, 1) := by decide +kernel
theorem ef_2 (m : MethodId) (p2_0 : Int32) : entryFrame m #[(.int p2_0)] 3 = mkF m 0 #[.val (.int p2_0), .unset, .unset] [] := by first | (simp [entryFrame, mkF, argsToLocals, Value.category]; done) | rfl
def own_exp (p2_0 : Int32) : Int32 := (if p2_0 < (33 : Int32) then (if p2_0 = (32 : Int32) then (0 : Int32) else (if p2_0 = (9 : Int32) then (0 : Int32) else (1 : Int32))) else (if (126 : Int32) < p2_0 then (if p2_0 = (32 : Int32) then (0 : Int32) else (if p2_0 = (9 : Int32) then (0 : Int32) else (1 : Int32))) else (if p2_0 = (61 : Int32) then (if p2_0 = (32 : Int32) then (0 : Int32) else (if p2_0 = (9 : Int32) then (0 : Int32) else (1 : Int32))) else (0 : Int32))))
def Q2 (Z : State) (p2_0 : Int32) (h0 : Heap) (n0 : Nat) (v : Option Value) (h : Heap) (L : List Loc) : Prop := v = some (.int (own_exp p2_0)) ∧ Fr n0 L ∧ h = h0
set_option maxRecDepth 65536 in
set_option maxHeartbeats 40000000 in
theorem rm2 (l : Launch) (Z : State) (a0 : Array Value) (hw : ∀ d ∈ tables_1, d.before a0 Z = true) (ws : List Jvm.Cond) (p2_0 : Int32) (h0 : Heap) (n0 : Nat) (Z0 : n0 ≤ h0.size) :
    MetFree l (⟨"com/example/fat_envelope/fatenvelope/QuotedPrintableOutputStreamAlwaysEscapesPinLaw", "expected", "(I)Z"⟩ : MethodName) (head1 (Jvm.Cond.code (⟨"com/example/fat_envelope/fatenvelope/QuotedPrintableOutputStreamAlwaysEscapesPinLaw", "expected", "(I)Z"⟩ : MethodName) method_2_code 3 (some .boolean) :: ws) ({ frames := 0, cells := 0, slots := 0, locals := 0 } : Room)) (fun a U => a = #[(.int p2_0)] ∧ Z.Warmed39 U.vm ∧ U.heap = h0) (fun _ _ _ _ _ => True) (fun _ U o U' => ∃ v L, o = .returned v ∧ Q2 Z p2_0 h0 n0 v U'.heap L ∧ FrameEnd U o U' L ({ frames := 0, cells := 0, slots := 0, locals := 0 } : Room).cells ({ frames := 0, cells := 0, slots := 0, locals := 0 } : Room).slots) := by
  refine MetFree.of_bodySF (plainFor_of_name pn_1) hisR ?_
  intro p e s m args below meth c s₁ Bd hml0 hP hK
  obtain ⟨rfl, hZ, hh⟩ := hP
  have hx := Bd.exec
  have hby := Bd.bytes
  have hml : c.maxLocals = 3 := hml0
  have hown : s.vm.findClass "com/example/fat_envelope/fatenvelope/QuotedPrintableOutputStreamAlwaysEscapesPinLaw" = some m.cls := findClass_of_methodNamed Bd.named
  have hnm := (name_of_methodNamed Bd.named Bd.method).1
  have X0 : Stand p l e ({ frames := 0, cells := 0, slots := 0, locals := 0 } : Room) s m #[(.int p2_0)] below meth c s₁ [] 0 0 := Stand.of_body Bd
  have e0 : s₁.heap = h0 := by rw [← hh, Bd.state]; rfl
  have N0 := Fr.nil n0
  have pre0 : ∀ t, Steps p.tables e below (s₁.setTop (mkF m 0 #[.val (.int p2_0), .unset, .unset] [])) t → Steps p.tables e below (s₁.setTop (entryFrame m #[(.int p2_0)] 3)) t := fun t k => castTop (ef_2 m p2_0) k
  have k1 : ∀ t, Steps p.tables e below (s₁.setTop (mkF m 3 #[.val (.int p2_0), .unset, .unset] [(.int (33 : Int32)), (.int p2_0)])) t → Steps p.tables e below (s₁.setTop (entryFrame m #[(.int p2_0)] 3)) t := by
    intro t k
    refine pre0 t ?_
    show Steps p.tables e below (s₁.setTop (mkF m 0 #[.val (.int p2_0), .unset, .unset] [])) _
    refine XS.iloadN X0.here hx rfl (hb hby d2_0) rfl ?_
    show Steps p.tables e below (s₁.setTop (mkF m 1 #[.val (.int p2_0), .unset, .unset] [(.int p2_0)])) _
    refine XS.bipush X0.here hx rfl (hb hby d2_1) ?_
    exact k
  by_cases hc3_2 : p2_0 < (33 : Int32)
  · skip
    have k3 : ∀ t, Steps p.tables e below (s₁.setTop (mkF m 31 #[.val (.int p2_0), .val (.int (0 : Int32)), .unset] [(.int (32 : Int32)), (.int p2_0)])) t → Steps p.tables e below (s₁.setTop (entryFrame m #[(.int p2_0)] 3)) t := by
      intro t k
      refine k1 t ?_
      show Steps p.tables e below (s₁.setTop (mkF m 3 #[.val (.int p2_0), .unset, .unset] [(.int (33 : Int32)), (.int p2_0)])) _
      refine XS.icmpYes X0.here hx rfl (pc0 := 3) (pc' := 16) rfl (hb hby d2_3) rfl (tlt hc3_2).1 (by decide) (by decide) ?_
      show Steps p.tables e below (s₁.setTop (mkF m 16 #[.val (.int p2_0), .unset, .unset] [])) _
      refine XS.iconst X0.here hx rfl (hb hby d2_16) ?_
      show Steps p.tables e below (s₁.setTop (mkF m 17 #[.val (.int p2_0), .unset, .unset] [(.int (0 : Int32))])) _
      refine XS.istoreN X0.here hx rfl (hb hby d2_17) rfl (l' := #[.val (.int p2_0), .val (.int (0 : Int32)), .unset]) rfl ?_
      show Steps p.tables e below (s₁.setTop (mkF m 18 #[.val (.int p2_0), .val (.int (0 : Int32)), .unset] [])) _
      refine XS.iloadN X0.here hx rfl (hb hby d2_18) rfl ?_
      show Steps p.tables e below (s₁.setTop (mkF m 19 #[.val (.int p2_0), .val (.int (0 : Int32)), .unset] [(.int (0 : Int32))])) _
      refine XS.ifYes X0.here hx rfl (pc0 := 19) (pc' := 28) rfl (hb hby d2_19) rfl ((if0 _ _).trans (teq (by decide : (0 : Int32) = (0 : Int32))).1) (by decide) (by decide) ?_
      show Steps p.tables e below (s₁.setTop (mkF m 28 #[.val (.int p2_0), .val (.int (0 : Int32)), .unset] [])) _
      refine XS.iloadN X0.here hx rfl (hb hby d2_28) rfl ?_
      show Steps p.tables e below (s₁.setTop (mkF m 29 #[.val (.int p2_0), .val (.int (0 : Int32)), .unset] [(.int p2_0)])) _
      refine XS.bipush X0.here hx rfl (hb hby d2_29) ?_
      exact k
    by_cases hc31_4 : p2_0 = (32 : Int32)
    · skip
      have k5 : ∀ t, Steps p.tables e below (s₁.setTop (mkF m 55 #[.val (.int p2_0), .val (.int (0 : Int32)), .val (.int (1 : Int32))] [(.int (0 : Int32))])) t → Steps p.tables e below (s₁.setTop (entryFrame m #[(.int p2_0)] 3)) t := by
        intro t k
        refine k3 t ?_
        show Steps p.tables e below (s₁.setTop (mkF m 31 #[.val (.int p2_0), .val (.int (0 : Int32)), .unset] [(.int (32 : Int32)), (.int p2_0)])) _
        refine XS.icmpYes X0.here hx rfl (pc0 := 31) (pc' := 40) rfl (hb hby d2_31) rfl (teq hc31_4).1 (by decide) (by decide) ?_
        show Steps p.tables e below (s₁.setTop (mkF m 40 #[.val (.int p2_0), .val (.int (0 : Int32)), .unset] [])) _
        refine XS.iconst X0.here hx rfl (hb hby d2_40) ?_
        show Steps p.tables e below (s₁.setTop (mkF m 41 #[.val (.int p2_0), .val (.int (0 : Int32)), .unset] [(.int (1 : Int32))])) _
        refine XS.goto X0.here hx rfl (pc0 := 41) (pc' := 45) rfl (hb hby d2_41) (by decide) (by decide) ?_
        show Steps p.tables e below (s₁.setTop (mkF m 45 #[.val (.int p2_0), .val (.int (0 : Int32)), .unset] [(.int (1 : Int32))])) _
        refine XS.istoreN X0.here hx rfl (hb hby d2_45) rfl (l' := #[.val (.int p2_0), .val (.int (0 : Int32)), .val (.int (1 : Int32))]) rfl ?_
        show Steps p.tables e below (s₁.setTop (mkF m 46 #[.val (.int p2_0), .val (.int (0 : Int32)), .val (.int (1 : Int32))] [])) _
        refine XS.iloadN X0.here hx rfl (hb hby d2_46) rfl ?_
        show Steps p.tables e below (s₁.setTop (mkF m 47 #[.val (.int p2_0), .val (.int (0 : Int32)), .val (.int (1 : Int32))] [(.int (1 : Int32))])) _
        refine XS.ifYes X0.here hx rfl (pc0 := 47) (pc' := 54) rfl (hb hby d2_47) rfl ((if0 _ _).trans (feq (by decide : ¬ ((1 : Int32) = (0 : Int32)))).2) (by decide) (by decide) ?_
        show Steps p.tables e below (s₁.setTop (mkF m 54 #[.val (.int p2_0), .val (.int (0 : Int32)), .val (.int (1 : Int32))] [])) _
        refine XS.iconst X0.here hx rfl (hb hby d2_54) ?_
        exact k
      obtain ⟨fs, hr, hrun, hended, hW, hsame⟩ := X0.leave (v := some (.int (0 : Int32))) (fun h => by rw [Bd.returns] at h; cases h)
      refine ⟨_, _, k5 _ ?_, hrun, hended, _, _, rfl, ?_, ⟨_, rfl⟩, hW, hsame.mono (by decide) (by decide)⟩
      · exact retN X0 hx (t := .boolean) Bd.returns (by simp) (hb hby d2_55) hr
      · show Q2 Z p2_0 h0 n0 _ s₁.heap _
        rw [e0]
        exact ⟨congrArg (fun z => some (Value.int z)) (show ((0 : Int32) : Int32) = own_exp p2_0 from by unfold own_exp; rw [if_pos hc3_2, if_pos hc31_4]), N0, rfl⟩
    · skip
      have k6 : ∀ t, Steps p.tables e below (s₁.setTop (mkF m 37 #[.val (.int p2_0), .val (.int (0 : Int32)), .unset] [(.int (9 : Int32)), (.int p2_0)])) t → Steps p.tables e below (s₁.setTop (entryFrame m #[(.int p2_0)] 3)) t := by
        intro t k
        refine k3 t ?_
        show Steps p.tables e below (s₁.setTop (mkF m 31 #[.val (.int p2_0), .val (.int (0 : Int32)), .unset] [(.int (32 : Int32)), (.int p2_0)])) _
        refine XS.icmpNo X0.here hx rfl (hb hby d2_31) rfl (feq hc31_4).1 ?_
        show Steps p.tables e below (s₁.setTop (mkF m 34 #[.val (.int p2_0), .val (.int (0 : Int32)), .unset] [])) _
        refine XS.iloadN X0.here hx rfl (hb hby d2_34) rfl ?_
        show Steps p.tables e below (s₁.setTop (mkF m 35 #[.val (.int p2_0), .val (.int (0 : Int32)), .unset] [(.int p2_0)])) _
        refine XS.bipush X0.here hx rfl (hb hby d2_35) ?_
        exact k
      by_cases hc37_7 : p2_0 = (9 : Int32)
      · skip
        have k8 : ∀ t, Steps p.tables e below (s₁.setTop (mkF m 55 #[.val (.int p2_0), .val (.int (0 : Int32)), .val (.int (1 : Int32))] [(.int (0 : Int32))])) t → Steps p.tables e below (s₁.setTop (entryFrame m #[(.int p2_0)] 3)) t := by
          intro t k
          refine k6 t ?_
          show Steps p.tables e below (s₁.setTop (mkF m 37 #[.val (.int p2_0), .val (.int (0 : Int32)), .unset] [(.int (9 : Int32)), (.int p2_0)])) _
          refine XS.icmpNo X0.here hx rfl (hb hby d2_37) rfl (teq hc37_7).2 ?_
          show Steps p.tables e below (s₁.setTop (mkF m 40 #[.val (.int p2_0), .val (.int (0 : Int32)), .unset] [])) _
          refine XS.iconst X0.here hx rfl (hb hby d2_40) ?_
          show Steps p.tables e below (s₁.setTop (mkF m 41 #[.val (.int p2_0), .val (.int (0 : Int32)), .unset] [(.int (1 : Int32))])) _
          refine XS.goto X0.here hx rfl (pc0 := 41) (pc' := 45) rfl (hb hby d2_41) (by decide) (by decide) ?_
          show Steps p.tables e below (s₁.setTop (mkF m 45 #[.val (.int p2_0), .val (.int (0 : Int32)), .unset] [(.int (1 : Int32))])) _
          refine XS.istoreN X0.here hx rfl (hb hby d2_45) rfl (l' := #[.val (.int p2_0), .val (.int (0 : Int32)), .val (.int (1 : Int32))]) rfl ?_
          show Steps p.tables e below (s₁.setTop (mkF m 46 #[.val (.int p2_0), .val (.int (0 : Int32)), .val (.int (1 : Int32))] [])) _
          refine XS.iloadN X0.here hx rfl (hb hby d2_46) rfl ?_
          show Steps p.tables e below (s₁.setTop (mkF m 47 #[.val (.int p2_0), .val (.int (0 : Int32)), .val (.int (1 : Int32))] [(.int (1 : Int32))])) _
          refine XS.ifYes X0.here hx rfl (pc0 := 47) (pc' := 54) rfl (hb hby d2_47) rfl ((if0 _ _).trans (feq (by decide : ¬ ((1 : Int32) = (0 : Int32)))).2) (by decide) (by decide) ?_
          show Steps p.tables e below (s₁.setTop (mkF m 54 #[.val (.int p2_0), .val (.int (0 : Int32)), .val (.int (1 : Int32))] [])) _
          refine XS.iconst X0.here hx rfl (hb hby d2_54) ?_
          exact k
        obtain ⟨fs, hr, hrun, hended, hW, hsame⟩ := X0.leave (v := some (.int (0 : Int32))) (fun h => by rw [Bd.returns] at h; cases h)
        refine ⟨_, _, k8 _ ?_, hrun, hended, _, _, rfl, ?_, ⟨_, rfl⟩, hW, hsame.mono (by decide) (by decide)⟩
        · exact retN X0 hx (t := .boolean) Bd.returns (by simp) (hb hby d2_55) hr
        · show Q2 Z p2_0 h0 n0 _ s₁.heap _
          rw [e0]
          exact ⟨congrArg (fun z => some (Value.int z)) (show ((0 : Int32) : Int32) = own_exp p2_0 from by unfold own_exp; rw [if_pos hc3_2, if_neg hc31_4, if_pos hc37_7]), N0, rfl⟩
      · skip
        have k9 : ∀ t, Steps p.tables e below (s₁.setTop (mkF m 55 #[.val (.int p2_0), .val (.int (0 : Int32)), .val (.int (0 : Int32))] [(.int (1 : Int32))])) t → Steps p.tables e below (s₁.setTop (entryFrame m #[(.int p2_0)] 3)) t := by
          intro t k
          refine k6 t ?_
          show Steps p.tables e below (s₁.setTop (mkF m 37 #[.val (.int p2_0), .val (.int (0 : Int32)), .unset] [(.int (9 : Int32)), (.int p2_0)])) _
          refine XS.icmpYes X0.here hx rfl (pc0 := 37) (pc' := 44) rfl (hb hby d2_37) rfl (feq hc37_7).2 (by decide) (by decide) ?_
          show Steps p.tables e below (s₁.setTop (mkF m 44 #[.val (.int p2_0), .val (.int (0 : Int32)), .unset] [])) _
          refine XS.iconst X0.here hx rfl (hb hby d2_44) ?_
          show Steps p.tables e below (s₁.setTop (mkF m 45 #[.val (.int p2_0), .val (.int (0 : Int32)), .unset] [(.int (0 : Int32))])) _
          refine XS.istoreN X0.here hx rfl (hb hby d2_45) rfl (l' := #[.val (.int p2_0), .val (.int (0 : Int32)), .val (.int (0 : Int32))]) rfl ?_
          show Steps p.tables e below (s₁.setTop (mkF m 46 #[.val (.int p2_0), .val (.int (0 : Int32)), .val (.int (0 : Int32))] [])) _
          refine XS.iloadN X0.here hx rfl (hb hby d2_46) rfl ?_
          show Steps p.tables e below (s₁.setTop (mkF m 47 #[.val (.int p2_0), .val (.int (0 : Int32)), .val (.int (0 : Int32))] [(.int (0 : Int32))])) _
          refine XS.ifNo X0.here hx rfl (hb hby d2_47) rfl ((if0 _ _).trans (teq (by decide : (0 : Int32) = (0 : Int32))).2) ?_
          show Steps p.tables e below (s₁.setTop (mkF m 50 #[.val (.int p2_0), .val (.int (0 : Int32)), .val (.int (0 : Int32))] [])) _
          refine XS.iconst X0.here hx rfl (hb hby d2_50) ?_
          show Steps p.tables e below (s₁.setTop (mkF m 51 #[.val (.int p2_0), .val (.int (0 : Int32)), .val (.int (0 : Int32))] [(.int (1 : Int32))])) _
          refine XS.goto X0.here hx rfl (pc0 := 51) (pc' := 55) rfl (hb hby d2_51) (by decide) (by decide) ?_
          exact k
        obtain ⟨fs, hr, hrun, hended, hW, hsame⟩ := X0.leave (v := some (.int (1 : Int32))) (fun h => by rw [Bd.returns] at h; cases h)
        refine ⟨_, _, k9 _ ?_, hrun, hended, _, _, rfl, ?_, ⟨_, rfl⟩, hW, hsame.mono (by decide) (by decide)⟩
        · exact retN X0 hx (t := .boolean) Bd.returns (by simp) (hb hby d2_55) hr
        · show Q2 Z p2_0 h0 n0 _ s₁.heap _
          rw [e0]
          exact ⟨congrArg (fun z => some (Value.int z)) (show ((1 : Int32) : Int32) = own_exp p2_0 from by unfold own_exp; rw [if_pos hc3_2, if_neg hc31_4, if_neg hc37_7]), N0, rfl⟩
  · skip
    have k10 : ∀ t, Steps p.tables e below (s₁.setTop (mkF m 9 #[.val (.int p2_0), .unset, .unset] [(.int (126 : Int32)), (.int p2_0)])) t → Steps p.tables e below (s₁.setTop (entryFrame m #[(.int p2_0)] 3)) t := by
      intro t k
      refine k1 t ?_
      show Steps p.tables e below (s₁.setTop (mkF m 3 #[.val (.int p2_0), .unset, .unset] [(.int (33 : Int32)), (.int p2_0)])) _
      refine XS.icmpNo X0.here hx rfl (hb hby d2_3) rfl (flt hc3_2).1 ?_
      show Steps p.tables e below (s₁.setTop (mkF m 6 #[.val (.int p2_0), .unset, .unset] [])) _
      refine XS.iloadN X0.here hx rfl (hb hby d2_6) rfl ?_
      show Steps p.tables e below (s₁.setTop (mkF m 7 #[.val (.int p2_0), .unset, .unset] [(.int p2_0)])) _
      refine XS.bipush X0.here hx rfl (hb hby d2_7) ?_
      exact k
    by_cases hc9_11 : (126 : Int32) < p2_0
    · skip
      have k12 : ∀ t, Steps p.tables e below (s₁.setTop (mkF m 31 #[.val (.int p2_0), .val (.int (0 : Int32)), .unset] [(.int (32 : Int32)), (.int p2_0)])) t → Steps p.tables e below (s₁.setTop (entryFrame m #[(.int p2_0)] 3)) t := by
        intro t k
        refine k10 t ?_
        show Steps p.tables e below (s₁.setTop (mkF m 9 #[.val (.int p2_0), .unset, .unset] [(.int (126 : Int32)), (.int p2_0)])) _
        refine XS.icmpYes X0.here hx rfl (pc0 := 9) (pc' := 16) rfl (hb hby d2_9) rfl (tlt hc9_11).2.2.1 (by decide) (by decide) ?_
        show Steps p.tables e below (s₁.setTop (mkF m 16 #[.val (.int p2_0), .unset, .unset] [])) _
        refine XS.iconst X0.here hx rfl (hb hby d2_16) ?_
        show Steps p.tables e below (s₁.setTop (mkF m 17 #[.val (.int p2_0), .unset, .unset] [(.int (0 : Int32))])) _
        refine XS.istoreN X0.here hx rfl (hb hby d2_17) rfl (l' := #[.val (.int p2_0), .val (.int (0 : Int32)), .unset]) rfl ?_
        show Steps p.tables e below (s₁.setTop (mkF m 18 #[.val (.int p2_0), .val (.int (0 : Int32)), .unset] [])) _
        refine XS.iloadN X0.here hx rfl (hb hby d2_18) rfl ?_
        show Steps p.tables e below (s₁.setTop (mkF m 19 #[.val (.int p2_0), .val (.int (0 : Int32)), .unset] [(.int (0 : Int32))])) _
        refine XS.ifYes X0.here hx rfl (pc0 := 19) (pc' := 28) rfl (hb hby d2_19) rfl ((if0 _ _).trans (teq (by decide : (0 : Int32) = (0 : Int32))).1) (by decide) (by decide) ?_
        show Steps p.tables e below (s₁.setTop (mkF m 28 #[.val (.int p2_0), .val (.int (0 : Int32)), .unset] [])) _
        refine XS.iloadN X0.here hx rfl (hb hby d2_28) rfl ?_
        show Steps p.tables e below (s₁.setTop (mkF m 29 #[.val (.int p2_0), .val (.int (0 : Int32)), .unset] [(.int p2_0)])) _
        refine XS.bipush X0.here hx rfl (hb hby d2_29) ?_
        exact k
      by_cases hc31_13 : p2_0 = (32 : Int32)
      · skip
        have k14 : ∀ t, Steps p.tables e below (s₁.setTop (mkF m 55 #[.val (.int p2_0), .val (.int (0 : Int32)), .val (.int (1 : Int32))] [(.int (0 : Int32))])) t → Steps p.tables e below (s₁.setTop (entryFrame m #[(.int p2_0)] 3)) t := by
          intro t k
          refine k12 t ?_
          show Steps p.tables e below (s₁.setTop (mkF m 31 #[.val (.int p2_0), .val (.int (0 : Int32)), .unset] [(.int (32 : Int32)), (.int p2_0)])) _
          refine XS.icmpYes X0.here hx rfl (pc0 := 31) (pc' := 40) rfl (hb hby d2_31) rfl (teq hc31_13).1 (by decide) (by decide) ?_
          show Steps p.tables e below (s₁.setTop (mkF m 40 #[.val (.int p2_0), .val (.int (0 : Int32)), .unset] [])) _
          refine XS.iconst X0.here hx rfl (hb hby d2_40) ?_
          show Steps p.tables e below (s₁.setTop (mkF m 41 #[.val (.int p2_0), .val (.int (0 : Int32)), .unset] [(.int (1 : Int32))])) _
          refine XS.goto X0.here hx rfl (pc0 := 41) (pc' := 45) rfl (hb hby d2_41) (by decide) (by decide) ?_
          show Steps p.tables e below (s₁.setTop (mkF m 45 #[.val (.int p2_0), .val (.int (0 : Int32)), .unset] [(.int (1 : Int32))])) _
          refine XS.istoreN X0.here hx rfl (hb hby d2_45) rfl (l' := #[.val (.int p2_0), .val (.int (0 : Int32)), .val (.int (1 : Int32))]) rfl ?_
          show Steps p.tables e below (s₁.setTop (mkF m 46 #[.val (.int p2_0), .val (.int (0 : Int32)), .val (.int (1 : Int32))] [])) _
          refine XS.iloadN X0.here hx rfl (hb hby d2_46) rfl ?_
          show Steps p.tables e below (s₁.setTop (mkF m 47 #[.val (.int p2_0), .val (.int (0 : Int32)), .val (.int (1 : Int32))] [(.int (1 : Int32))])) _
          refine XS.ifYes X0.here hx rfl (pc0 := 47) (pc' := 54) rfl (hb hby d2_47) rfl ((if0 _ _).trans (feq (by decide : ¬ ((1 : Int32) = (0 : Int32)))).2) (by decide) (by decide) ?_
          show Steps p.tables e below (s₁.setTop (mkF m 54 #[.val (.int p2_0), .val (.int (0 : Int32)), .val (.int (1 : Int32))] [])) _
          refine XS.iconst X0.here hx rfl (hb hby d2_54) ?_
          exact k
        obtain ⟨fs, hr, hrun, hended, hW, hsame⟩ := X0.leave (v := some (.int (0 : Int32))) (fun h => by rw [Bd.returns] at h; cases h)
        refine ⟨_, _, k14 _ ?_, hrun, hended, _, _, rfl, ?_, ⟨_, rfl⟩, hW, hsame.mono (by decide) (by decide)⟩
        · exact retN X0 hx (t := .boolean) Bd.returns (by simp) (hb hby d2_55) hr
        · show Q2 Z p2_0 h0 n0 _ s₁.heap _
          rw [e0]
          exact ⟨congrArg (fun z => some (Value.int z)) (show ((0 : Int32) : Int32) = own_exp p2_0 from by unfold own_exp; rw [if_neg hc3_2, if_pos hc9_11, if_pos hc31_13]), N0, rfl⟩
      · skip
        have k15 : ∀ t, Steps p.tables e below (s₁.setTop (mkF m 37 #[.val (.int p2_0), .val (.int (0 : Int32)), .unset] [(.int (9 : Int32)), (.int p2_0)])) t → Steps p.tables e below (s₁.setTop (entryFrame m #[(.int p2_0)] 3)) t := by
          intro t k
          refine k12 t ?_
          show Steps p.tables e below (s₁.setTop (mkF m 31 #[.val (.int p2_0), .val (.int (0 : Int32)), .unset] [(.int (32 : Int32)), (.int p2_0)])) _
          refine XS.icmpNo X0.here hx rfl (hb hby d2_31) rfl (feq hc31_13).1 ?_
          show Steps p.tables e below (s₁.setTop (mkF m 34 #[.val (.int p2_0), .val (.int (0 : Int32)), .unset] [])) _
          refine XS.iloadN X0.here hx rfl (hb hby d2_34) rfl ?_
          show Steps p.tables e below (s₁.setTop (mkF m 35 #[.val (.int p2_0), .val (.int (0 : Int32)), .unset] [(.int p2_0)])) _
          refine XS.bipush X0.here hx rfl (hb hby d2_35) ?_
          exact k
        by_cases hc37_16 : p2_0 = (9 : Int32)
        · skip
          have k17 : ∀ t, Steps p.tables e below (s₁.setTop (mkF m 55 #[.val (.int p2_0), .val (.int (0 : Int32)), .val (.int (1 : Int32))] [(.int (0 : Int32))])) t → Steps p.tables e below (s₁.setTop (entryFrame m #[(.int p2_0)] 3)) t := by
            intro t k
            refine k15 t ?_
            show Steps p.tables e below (s₁.setTop (mkF m 37 #[.val (.int p2_0), .val (.int (0 : Int32)), .unset] [(.int (9 : Int32)), (.int p2_0)])) _
            refine XS.icmpNo X0.here hx rfl (hb hby d2_37) rfl (teq hc37_16).2 ?_
            show Steps p.tables e below (s₁.setTop (mkF m 40 #[.val (.int p2_0), .val (.int (0 : Int32)), .unset] [])) _
            refine XS.iconst X0.here hx rfl (hb hby d2_40) ?_
            show Steps p.tables e below (s₁.setTop (mkF m 41 #[.val (.int p2_0), .val (.int (0 : Int32)), .unset] [(.int (1 : Int32))])) _
            refine XS.goto X0.here hx rfl (pc0 := 41) (pc' := 45) rfl (hb hby d2_41) (by decide) (by decide) ?_
            show Steps p.tables e below (s₁.setTop (mkF m 45 #[.val (.int p2_0), .val (.int (0 : Int32)), .unset] [(.int (1 : Int32))])) _
            refine XS.istoreN X0.here hx rfl (hb hby d2_45) rfl (l' := #[.val (.int p2_0), .val (.int (0 : Int32)), .val (.int (1 : Int32))]) rfl ?_
            show Steps p.tables e below (s₁.setTop (mkF m 46 #[.val (.int p2_0), .val (.int (0 : Int32)), .val (.int (1 : Int32))] [])) _
            refine XS.iloadN X0.here hx rfl (hb hby d2_46) rfl ?_
            show Steps p.tables e below (s₁.setTop (mkF m 47 #[.val (.int p2_0), .val (.int (0 : Int32)), .val (.int (1 : Int32))] [(.int (1 : Int32))])) _
            refine XS.ifYes X0.here hx rfl (pc0 := 47) (pc' := 54) rfl (hb hby d2_47) rfl ((if0 _ _).trans (feq (by decide : ¬ ((1 : Int32) = (0 : Int32)))).2) (by decide) (by decide) ?_
            show Steps p.tables e below (s₁.setTop (mkF m 54 #[.val (.int p2_0), .val (.int (0 : Int32)), .val (.int (1 : Int32))] [])) _
            refine XS.iconst X0.here hx rfl (hb hby d2_54) ?_
            exact k
          obtain ⟨fs, hr, hrun, hended, hW, hsame⟩ := X0.leave (v := some (.int (0 : Int32))) (fun h => by rw [Bd.returns] at h; cases h)
          refine ⟨_, _, k17 _ ?_, hrun, hended, _, _, rfl, ?_, ⟨_, rfl⟩, hW, hsame.mono (by decide) (by decide)⟩
          · exact retN X0 hx (t := .boolean) Bd.returns (by simp) (hb hby d2_55) hr
          · show Q2 Z p2_0 h0 n0 _ s₁.heap _
            rw [e0]
            exact ⟨congrArg (fun z => some (Value.int z)) (show ((0 : Int32) : Int32) = own_exp p2_0 from by unfold own_exp; rw [if_neg hc3_2, if_pos hc9_11, if_neg hc31_13, if_pos hc37_16]), N0, rfl⟩
        · skip
          have k18 : ∀ t, Steps p.tables e below (s₁.setTop (mkF m 55 #[.val (.int p2_0), .val (.int (0 : Int32)), .val (.int (0 : Int32))] [(.int (1 : Int32))])) t → Steps p.tables e below (s₁.setTop (entryFrame m #[(.int p2_0)] 3)) t := by
            intro t k
            refine k15 t ?_
            show Steps p.tables e below (s₁.setTop (mkF m 37 #[.val (.int p2_0), .val (.int (0 : Int32)), .unset] [(.int (9 : Int32)), (.int p2_0)])) _
            refine XS.icmpYes X0.here hx rfl (pc0 := 37) (pc' := 44) rfl (hb hby d2_37) rfl (feq hc37_16).2 (by decide) (by decide) ?_
            show Steps p.tables e below (s₁.setTop (mkF m 44 #[.val (.int p2_0), .val (.int (0 : Int32)), .unset] [])) _
            refine XS.iconst X0.here hx rfl (hb hby d2_44) ?_
            show Steps p.tables e below (s₁.setTop (mkF m 45 #[.val (.int p2_0), .val (.int (0 : Int32)), .unset] [(.int (0 : Int32))])) _
            refine XS.istoreN X0.here hx rfl (hb hby d2_45) rfl (l' := #[.val (.int p2_0), .val (.int (0 : Int32)), .val (.int (0 : Int32))]) rfl ?_
            show Steps p.tables e below (s₁.setTop (mkF m 46 #[.val (.int p2_0), .val (.int (0 : Int32)), .val (.int (0 : Int32))] [])) _
            refine XS.iloadN X0.here hx rfl (hb hby d2_46) rfl ?_
            show Steps p.tables e below (s₁.setTop (mkF m 47 #[.val (.int p2_0), .val (.int (0 : Int32)), .val (.int (0 : Int32))] [(.int (0 : Int32))])) _
            refine XS.ifNo X0.here hx rfl (hb hby d2_47) rfl ((if0 _ _).trans (teq (by decide : (0 : Int32) = (0 : Int32))).2) ?_
            show Steps p.tables e below (s₁.setTop (mkF m 50 #[.val (.int p2_0), .val (.int (0 : Int32)), .val (.int (0 : Int32))] [])) _
            refine XS.iconst X0.here hx rfl (hb hby d2_50) ?_
            show Steps p.tables e below (s₁.setTop (mkF m 51 #[.val (.int p2_0), .val (.int (0 : Int32)), .val (.int (0 : Int32))] [(.int (1 : Int32))])) _
            refine XS.goto X0.here hx rfl (pc0 := 51) (pc' := 55) rfl (hb hby d2_51) (by decide) (by decide) ?_
            exact k
          obtain ⟨fs, hr, hrun, hended, hW, hsame⟩ := X0.leave (v := some (.int (1 : Int32))) (fun h => by rw [Bd.returns] at h; cases h)
          refine ⟨_, _, k18 _ ?_, hrun, hended, _, _, rfl, ?_, ⟨_, rfl⟩, hW, hsame.mono (by decide) (by decide)⟩
          · exact retN X0 hx (t := .boolean) Bd.returns (by simp) (hb hby d2_55) hr
          · show Q2 Z p2_0 h0 n0 _ s₁.heap _
            rw [e0]
            exact ⟨congrArg (fun z => some (Value.int z)) (show ((1 : Int32) : Int32) = own_exp p2_0 from by unfold own_exp; rw [if_neg hc3_2, if_pos hc9_11, if_neg hc31_13, if_neg hc37_16]), N0, rfl⟩
    · skip
      have k19 : ∀ t, Steps p.tables e below (s₁.setTop (mkF m 25 #[.val (.int p2_0), .val (.int (1 : Int32)), .unset] [(.int (61 : Int32)), (.int p2_0)])) t → Steps p.tables e below (s₁.setTop (entryFrame m #[(.int p2_0)] 3)) t := by
        intro t k
        refine k10 t ?_
        show Steps p.tables e below (s₁.setTop (mkF m 9 #[.val (.int p2_0), .unset, .unset] [(.int (126 : Int32)), (.int p2_0)])) _
        refine XS.icmpNo X0.here hx rfl (hb hby d2_9) rfl (flt hc9_11).2.2.1 ?_
        show Steps p.tables e below (s₁.setTop (mkF m 12 #[.val (.int p2_0), .unset, .unset] [])) _
        refine XS.iconst X0.here hx rfl (hb hby d2_12) ?_
        show Steps p.tables e below (s₁.setTop (mkF m 13 #[.val (.int p2_0), .unset, .unset] [(.int (1 : Int32))])) _
        refine XS.goto X0.here hx rfl (pc0 := 13) (pc' := 17) rfl (hb hby d2_13) (by decide) (by decide) ?_
        show Steps p.tables e below (s₁.setTop (mkF m 17 #[.val (.int p2_0), .unset, .unset] [(.int (1 : Int32))])) _
        refine XS.istoreN X0.here hx rfl (hb hby d2_17) rfl (l' := #[.val (.int p2_0), .val (.int (1 : Int32)), .unset]) rfl ?_
        show Steps p.tables e below (s₁.setTop (mkF m 18 #[.val (.int p2_0), .val (.int (1 : Int32)), .unset] [])) _
        refine XS.iloadN X0.here hx rfl (hb hby d2_18) rfl ?_
        show Steps p.tables e below (s₁.setTop (mkF m 19 #[.val (.int p2_0), .val (.int (1 : Int32)), .unset] [(.int (1 : Int32))])) _
        refine XS.ifNo X0.here hx rfl (hb hby d2_19) rfl ((if0 _ _).trans (feq (by decide : ¬ ((1 : Int32) = (0 : Int32)))).1) ?_
        show Steps p.tables e below (s₁.setTop (mkF m 22 #[.val (.int p2_0), .val (.int (1 : Int32)), .unset] [])) _
        refine XS.iloadN X0.here hx rfl (hb hby d2_22) rfl ?_
        show Steps p.tables e below (s₁.setTop (mkF m 23 #[.val (.int p2_0), .val (.int (1 : Int32)), .unset] [(.int p2_0)])) _
        refine XS.bipush X0.here hx rfl (hb hby d2_23) ?_
        exact k
      by_cases hc25_20 : p2_0 = (61 : Int32)
      · skip
        have k21 : ∀ t, Steps p.tables e below (s₁.setTop (mkF m 31 #[.val (.int p2_0), .val (.int (1 : Int32)), .unset] [(.int (32 : Int32)), (.int p2_0)])) t → Steps p.tables e below (s₁.setTop (entryFrame m #[(.int p2_0)] 3)) t := by
          intro t k
          refine k19 t ?_
          show Steps p.tables e below (s₁.setTop (mkF m 25 #[.val (.int p2_0), .val (.int (1 : Int32)), .unset] [(.int (61 : Int32)), (.int p2_0)])) _
          refine XS.icmpNo X0.here hx rfl (hb hby d2_25) rfl (teq hc25_20).2 ?_
          show Steps p.tables e below (s₁.setTop (mkF m 28 #[.val (.int p2_0), .val (.int (1 : Int32)), .unset] [])) _
          refine XS.iloadN X0.here hx rfl (hb hby d2_28) rfl ?_
          show Steps p.tables e below (s₁.setTop (mkF m 29 #[.val (.int p2_0), .val (.int (1 : Int32)), .unset] [(.int p2_0)])) _
          refine XS.bipush X0.here hx rfl (hb hby d2_29) ?_
          exact k
        by_cases hc31_22 : p2_0 = (32 : Int32)
        · skip
          have k23 : ∀ t, Steps p.tables e below (s₁.setTop (mkF m 55 #[.val (.int p2_0), .val (.int (1 : Int32)), .val (.int (1 : Int32))] [(.int (0 : Int32))])) t → Steps p.tables e below (s₁.setTop (entryFrame m #[(.int p2_0)] 3)) t := by
            intro t k
            refine k21 t ?_
            show Steps p.tables e below (s₁.setTop (mkF m 31 #[.val (.int p2_0), .val (.int (1 : Int32)), .unset] [(.int (32 : Int32)), (.int p2_0)])) _
            refine XS.icmpYes X0.here hx rfl (pc0 := 31) (pc' := 40) rfl (hb hby d2_31) rfl (teq hc31_22).1 (by decide) (by decide) ?_
            show Steps p.tables e below (s₁.setTop (mkF m 40 #[.val (.int p2_0), .val (.int (1 : Int32)), .unset] [])) _
            refine XS.iconst X0.here hx rfl (hb hby d2_40) ?_
            show Steps p.tables e below (s₁.setTop (mkF m 41 #[.val (.int p2_0), .val (.int (1 : Int32)), .unset] [(.int (1 : Int32))])) _
            refine XS.goto X0.here hx rfl (pc0 := 41) (pc' := 45) rfl (hb hby d2_41) (by decide) (by decide) ?_
            show Steps p.tables e below (s₁.setTop (mkF m 45 #[.val (.int p2_0), .val (.int (1 : Int32)), .unset] [(.int (1 : Int32))])) _
            refine XS.istoreN X0.here hx rfl (hb hby d2_45) rfl (l' := #[.val (.int p2_0), .val (.int (1 : Int32)), .val (.int (1 : Int32))]) rfl ?_
            show Steps p.tables e below (s₁.setTop (mkF m 46 #[.val (.int p2_0), .val (.int (1 : Int32)), .val (.int (1 : Int32))] [])) _
            refine XS.iloadN X0.here hx rfl (hb hby d2_46) rfl ?_
            show Steps p.tables e below (s₁.setTop (mkF m 47 #[.val (.int p2_0), .val (.int (1 : Int32)), .val (.int (1 : Int32))] [(.int (1 : Int32))])) _
            refine XS.ifYes X0.here hx rfl (pc0 := 47) (pc' := 54) rfl (hb hby d2_47) rfl ((if0 _ _).trans (feq (by decide : ¬ ((1 : Int32) = (0 : Int32)))).2) (by decide) (by decide) ?_
            show Steps p.tables e below (s₁.setTop (mkF m 54 #[.val (.int p2_0), .val (.int (1 : Int32)), .val (.int (1 : Int32))] [])) _
            refine XS.iconst X0.here hx rfl (hb hby d2_54) ?_
            exact k
          obtain ⟨fs, hr, hrun, hended, hW, hsame⟩ := X0.leave (v := some (.int (0 : Int32))) (fun h => by rw [Bd.returns] at h; cases h)
          refine ⟨_, _, k23 _ ?_, hrun, hended, _, _, rfl, ?_, ⟨_, rfl⟩, hW, hsame.mono (by decide) (by decide)⟩
          · exact retN X0 hx (t := .boolean) Bd.returns (by simp) (hb hby d2_55) hr
          · show Q2 Z p2_0 h0 n0 _ s₁.heap _
            rw [e0]
            exact ⟨congrArg (fun z => some (Value.int z)) (show ((0 : Int32) : Int32) = own_exp p2_0 from by unfold own_exp; rw [if_neg hc3_2, if_neg hc9_11, if_pos hc25_20, if_pos hc31_22]), N0, rfl⟩
        · skip
          have k24 : ∀ t, Steps p.tables e below (s₁.setTop (mkF m 37 #[.val (.int p2_0), .val (.int (1 : Int32)), .unset] [(.int (9 : Int32)), (.int p2_0)])) t → Steps p.tables e below (s₁.setTop (entryFrame m #[(.int p2_0)] 3)) t := by
            intro t k
            refine k21 t ?_
            show Steps p.tables e below (s₁.setTop (mkF m 31 #[.val (.int p2_0), .val (.int (1 : Int32)), .unset] [(.int (32 : Int32)), (.int p2_0)])) _
            refine XS.icmpNo X0.here hx rfl (hb hby d2_31) rfl (feq hc31_22).1 ?_
            show Steps p.tables e below (s₁.setTop (mkF m 34 #[.val (.int p2_0), .val (.int (1 : Int32)), .unset] [])) _
            refine XS.iloadN X0.here hx rfl (hb hby d2_34) rfl ?_
            show Steps p.tables e below (s₁.setTop (mkF m 35 #[.val (.int p2_0), .val (.int (1 : Int32)), .unset] [(.int p2_0)])) _
            refine XS.bipush X0.here hx rfl (hb hby d2_35) ?_
            exact k
          by_cases hc37_25 : p2_0 = (9 : Int32)
          · skip
            have k26 : ∀ t, Steps p.tables e below (s₁.setTop (mkF m 55 #[.val (.int p2_0), .val (.int (1 : Int32)), .val (.int (1 : Int32))] [(.int (0 : Int32))])) t → Steps p.tables e below (s₁.setTop (entryFrame m #[(.int p2_0)] 3)) t := by
              intro t k
              refine k24 t ?_
              show Steps p.tables e below (s₁.setTop (mkF m 37 #[.val (.int p2_0), .val (.int (1 : Int32)), .unset] [(.int (9 : Int32)), (.int p2_0)])) _
              refine XS.icmpNo X0.here hx rfl (hb hby d2_37) rfl (teq hc37_25).2 ?_
              show Steps p.tables e below (s₁.setTop (mkF m 40 #[.val (.int p2_0), .val (.int (1 : Int32)), .unset] [])) _
              refine XS.iconst X0.here hx rfl (hb hby d2_40) ?_
              show Steps p.tables e below (s₁.setTop (mkF m 41 #[.val (.int p2_0), .val (.int (1 : Int32)), .unset] [(.int (1 : Int32))])) _
              refine XS.goto X0.here hx rfl (pc0 := 41) (pc' := 45) rfl (hb hby d2_41) (by decide) (by decide) ?_
              show Steps p.tables e below (s₁.setTop (mkF m 45 #[.val (.int p2_0), .val (.int (1 : Int32)), .unset] [(.int (1 : Int32))])) _
              refine XS.istoreN X0.here hx rfl (hb hby d2_45) rfl (l' := #[.val (.int p2_0), .val (.int (1 : Int32)), .val (.int (1 : Int32))]) rfl ?_
              show Steps p.tables e below (s₁.setTop (mkF m 46 #[.val (.int p2_0), .val (.int (1 : Int32)), .val (.int (1 : Int32))] [])) _
              refine XS.iloadN X0.here hx rfl (hb hby d2_46) rfl ?_
              show Steps p.tables e below (s₁.setTop (mkF m 47 #[.val (.int p2_0), .val (.int (1 : Int32)), .val (.int (1 : Int32))] [(.int (1 : Int32))])) _
              refine XS.ifYes X0.here hx rfl (pc0 := 47) (pc' := 54) rfl (hb hby d2_47) rfl ((if0 _ _).trans (feq (by decide : ¬ ((1 : Int32) = (0 : Int32)))).2) (by decide) (by decide) ?_
              show Steps p.tables e below (s₁.setTop (mkF m 54 #[.val (.int p2_0), .val (.int (1 : Int32)), .val (.int (1 : Int32))] [])) _
              refine XS.iconst X0.here hx rfl (hb hby d2_54) ?_
              exact k
            obtain ⟨fs, hr, hrun, hended, hW, hsame⟩ := X0.leave (v := some (.int (0 : Int32))) (fun h => by rw [Bd.returns] at h; cases h)
            refine ⟨_, _, k26 _ ?_, hrun, hended, _, _, rfl, ?_, ⟨_, rfl⟩, hW, hsame.mono (by decide) (by decide)⟩
            · exact retN X0 hx (t := .boolean) Bd.returns (by simp) (hb hby d2_55) hr
            · show Q2 Z p2_0 h0 n0 _ s₁.heap _
              rw [e0]
              exact ⟨congrArg (fun z => some (Value.int z)) (show ((0 : Int32) : Int32) = own_exp p2_0 from by unfold own_exp; rw [if_neg hc3_2, if_neg hc9_11, if_pos hc25_20, if_neg hc31_22, if_pos hc37_25]), N0, rfl⟩
          · skip
            have k27 : ∀ t, Steps p.tables e below (s₁.setTop (mkF m 55 #[.val (.int p2_0), .val (.int (1 : Int32)), .val (.int (0 : Int32))] [(.int (1 : Int32))])) t → Steps p.tables e below (s₁.setTop (entryFrame m #[(.int p2_0)] 3)) t := by
              intro t k
              refine k24 t ?_
              show Steps p.tables e below (s₁.setTop (mkF m 37 #[.val (.int p2_0), .val (.int (1 : Int32)), .unset] [(.int (9 : Int32)), (.int p2_0)])) _
              refine XS.icmpYes X0.here hx rfl (pc0 := 37) (pc' := 44) rfl (hb hby d2_37) rfl (feq hc37_25).2 (by decide) (by decide) ?_
              show Steps p.tables e below (s₁.setTop (mkF m 44 #[.val (.int p2_0), .val (.int (1 : Int32)), .unset] [])) _
              refine XS.iconst X0.here hx rfl (hb hby d2_44) ?_
              show Steps p.tables e below (s₁.setTop (mkF m 45 #[.val (.int p2_0), .val (.int (1 : Int32)), .unset] [(.int (0 : Int32))])) _
              refine XS.istoreN X0.here hx rfl (hb hby d2_45) rfl (l' := #[.val (.int p2_0), .val (.int (1 : Int32)), .val (.int (0 : Int32))]) rfl ?_
              show Steps p.tables e below (s₁.setTop (mkF m 46 #[.val (.int p2_0), .val (.int (1 : Int32)), .val (.int (0 : Int32))] [])) _
              refine XS.iloadN X0.here hx rfl (hb hby d2_46) rfl ?_
              show Steps p.tables e below (s₁.setTop (mkF m 47 #[.val (.int p2_0), .val (.int (1 : Int32)), .val (.int (0 : Int32))] [(.int (0 : Int32))])) _
              refine XS.ifNo X0.here hx rfl (hb hby d2_47) rfl ((if0 _ _).trans (teq (by decide : (0 : Int32) = (0 : Int32))).2) ?_
              show Steps p.tables e below (s₁.setTop (mkF m 50 #[.val (.int p2_0), .val (.int (1 : Int32)), .val (.int (0 : Int32))] [])) _
              refine XS.iconst X0.here hx rfl (hb hby d2_50) ?_
              show Steps p.tables e below (s₁.setTop (mkF m 51 #[.val (.int p2_0), .val (.int (1 : Int32)), .val (.int (0 : Int32))] [(.int (1 : Int32))])) _
              refine XS.goto X0.here hx rfl (pc0 := 51) (pc' := 55) rfl (hb hby d2_51) (by decide) (by decide) ?_
              exact k
            obtain ⟨fs, hr, hrun, hended, hW, hsame⟩ := X0.leave (v := some (.int (1 : Int32))) (fun h => by rw [Bd.returns] at h; cases h)
            refine ⟨_, _, k27 _ ?_, hrun, hended, _, _, rfl, ?_, ⟨_, rfl⟩, hW, hsame.mono (by decide) (by decide)⟩
            · exact retN X0 hx (t := .boolean) Bd.returns (by simp) (hb hby d2_55) hr
            · show Q2 Z p2_0 h0 n0 _ s₁.heap _
              rw [e0]
              exact ⟨congrArg (fun z => some (Value.int z)) (show ((1 : Int32) : Int32) = own_exp p2_0 from by unfold own_exp; rw [if_neg hc3_2, if_neg hc9_11, if_pos hc25_20, if_neg hc31_22, if_neg hc37_25]), N0, rfl⟩
      · skip
        have k28 : ∀ t, Steps p.tables e below (s₁.setTop (mkF m 55 #[.val (.int p2_0), .val (.int (1 : Int32)), .val (.int (1 : Int32))] [(.int (0 : Int32))])) t → Steps p.tables e below (s₁.setTop (entryFrame m #[(.int p2_0)] 3)) t := by
          intro t k
          refine k19 t ?_
          show Steps p.tables e below (s₁.setTop (mkF m 25 #[.val (.int p2_0), .val (.int (1 : Int32)), .unset] [(.int (61 : Int32)), (.int p2_0)])) _
          refine XS.icmpYes X0.here hx rfl (pc0 := 25) (pc' := 40) rfl (hb hby d2_25) rfl (feq hc25_20).2 (by decide) (by decide) ?_
          show Steps p.tables e below (s₁.setTop (mkF m 40 #[.val (.int p2_0), .val (.int (1 : Int32)), .unset] [])) _
          refine XS.iconst X0.here hx rfl (hb hby d2_40) ?_
          show Steps p.tables e below (s₁.setTop (mkF m 41 #[.val (.int p2_0), .val (.int (1 : Int32)), .unset] [(.int (1 : Int32))])) _
          refine XS.goto X0.here hx rfl (pc0 := 41) (pc' := 45) rfl (hb hby d2_41) (by decide) (by decide) ?_
          show Steps p.tables e below (s₁.setTop (mkF m 45 #[.val (.int p2_0), .val (.int (1 : Int32)), .unset] [(.int (1 : Int32))])) _
          refine XS.istoreN X0.here hx rfl (hb hby d2_45) rfl (l' := #[.val (.int p2_0), .val (.int (1 : Int32)), .val (.int (1 : Int32))]) rfl ?_
          show Steps p.tables e below (s₁.setTop (mkF m 46 #[.val (.int p2_0), .val (.int (1 : Int32)), .val (.int (1 : Int32))] [])) _
          refine XS.iloadN X0.here hx rfl (hb hby d2_46) rfl ?_
          show Steps p.tables e below (s₁.setTop (mkF m 47 #[.val (.int p2_0), .val (.int (1 : Int32)), .val (.int (1 : Int32))] [(.int (1 : Int32))])) _
          refine XS.ifYes X0.here hx rfl (pc0 := 47) (pc' := 54) rfl (hb hby d2_47) rfl ((if0 _ _).trans (feq (by decide : ¬ ((1 : Int32) = (0 : Int32)))).2) (by decide) (by decide) ?_
          show Steps p.tables e below (s₁.setTop (mkF m 54 #[.val (.int p2_0), .val (.int (1 : Int32)), .val (.int (1 : Int32))] [])) _
          refine XS.iconst X0.here hx rfl (hb hby d2_54) ?_
          exact k
        obtain ⟨fs, hr, hrun, hended, hW, hsame⟩ := X0.leave (v := some (.int (0 : Int32))) (fun h => by rw [Bd.returns] at h; cases h)
        refine ⟨_, _, k28 _ ?_, hrun, hended, _, _, rfl, ?_, ⟨_, rfl⟩, hW, hsame.mono (by decide) (by decide)⟩
        · exact retN X0 hx (t := .boolean) Bd.returns (by simp) (hb hby d2_55) hr
        · show Q2 Z p2_0 h0 n0 _ s₁.heap _
          rw [e0]
          exact ⟨congrArg (fun z => some (Value.int z)) (show ((0 : Int32) : Int32) = own_exp p2_0 from by unfold own_exp; rw [if_neg hc3_2, if_neg hc9_11, if_neg hc25_20]), N0, rfl⟩
set_option maxHeartbeats 4000000 in
theorem own_law (x : Int32) : own_esc x = own_exp x := by
  unfold own_esc own_exp
  first
    | rfl
    | (repeat' split
       all_goals first | rfl | (simp only [own_lt, own_eqi, Int32.reduceToInt] at *; omega))
theorem pd_0 : parseMethodDescriptor "(I)Z" = some ⟨[.int], some .boolean⟩ := by decide +kernel
theorem ef_0 (m : MethodId) (p0_0 : Int32) (p0_1 : Int32) : entryFrame m #[(.int p0_0), (.int p0_1)] maxLocals = mkF m 0 #[.val (.int p0_0), .val (.int p0_1), .unset, .unset] [] := by first | (simp [entryFrame, mkF, argsToLocals, Value.category, maxLocals]; done) | rfl
def Q0 (Z : State) (p0_0 : Int32) (p0_1 : Int32) (h0 : Heap) (n0 : Nat) (v : Option Value) (h : Heap) (L : List Loc) : Prop := v = some (.int (1 : Int32)) ∧ Fr n0 L
set_option maxRecDepth 65536 in
set_option maxHeartbeats 40000000 in
theorem rm0 (l : Launch) (Z : State) (a0 : Array Value) (hw : ∀ d ∈ tables_1, d.before a0 Z = true) (ws : List Jvm.Cond) (p0_0 : Int32) (p0_1 : Int32) (h0 : Heap) (n0 : Nat) (Z0 : n0 ≤ h0.size) :
    MetFree l x (head1 (Jvm.Cond.code x code maxLocals ret :: ws) room_1) (fun a U => a = #[(.int p0_0), (.int p0_1)] ∧ Z.Warmed39 U.vm ∧ U.heap = h0) (fun _ _ _ _ _ => True) (fun _ U o U' => ∃ v L, o = .returned v ∧ Q0 Z p0_0 p0_1 h0 n0 v U'.heap L ∧ FrameEnd U o U' L 0 0) := by
  refine MetFree.of_bodySF (plainFor_of_name pn_1) hisR ?_
  intro p e s m args below meth c s₁ Bd hml0 hP hK
  obtain ⟨rfl, hZ, hh⟩ := hP
  have hx := Bd.exec
  have hby := Bd.bytes
  have hml : c.maxLocals = 4 := hml0
  have hown : s.vm.findClass "com/example/fat_envelope/fatenvelope/QuotedPrintableOutputStreamAlwaysEscapesPinLaw" = some m.cls := findClass_of_methodNamed Bd.named
  have hnm := (name_of_methodNamed Bd.named Bd.method).1
  have X0 : Stand p l e room_1 s m #[(.int p0_0), (.int p0_1)] below meth c s₁ [] 0 0 := Stand.of_body Bd
  have e0 : s₁.heap = h0 := by rw [← hh, Bd.state]; rfl
  have N0 := Fr.nil n0
  have pre0 : ∀ t, Steps p.tables e below (s₁.setTop (mkF m 0 #[.val (.int p0_0), .val (.int p0_1), .unset, .unset] [])) t → Steps p.tables e below (s₁.setTop (entryFrame m #[(.int p0_0), (.int p0_1)] maxLocals)) t := fun t k => castTop (ef_0 m p0_0 p0_1) k
  obtain ⟨_, _, ⟨T1, L1, k1, n1⟩, -, X1, ⟨Lc1, hQ1, l1, y1, z1⟩, st1⟩ := Jvm.LawKit.callS X0 hx (y := (⟨"com/example/fat_envelope/fatenvelope/QuotedPrintableOutputStream", "alwaysEscapes", "(I)Z"⟩ : MethodName)) hown (mvT hZ (hw _ (List.mem_of_getElem? (i := 0) rfl))) (mvT hZ (hw _ (List.mem_of_getElem? (i := 1) rfl))) (mvT hZ (hw _ (List.mem_of_getElem? (i := 2) rfl))) (mvT hZ (hw _ (List.mem_of_getElem? (i := 3) rfl))) (by decide) (backOf (W := 0) (rm1 l Z a0 hw [] p0_0 h0 n0 Z0 ) hZ (hw _ (List.mem_of_getElem? (i := 3) rfl)) (hw _ (List.mem_of_getElem? (i := 2) rfl)) (by decide) (by decide)) (g := (mkF m 7 #[.val (.int p0_0), .val (.int p0_1), .val (.int (p0_1 &&& (255 : Int32))), .unset] [(.int p0_0)])) rfl (by rw [hml]; rfl) (argsL := [(.int p0_0)]) (rest := []) (lenOf pd_0 rfl) rfl (by show 2 * 0 + _ ≤ _; exact Nat.le_of_eq rfl) (hb hby at_7) (fun _ _ => ⟨rfl, e0, (by decide : 0 + 0 ≤ _), (by decide : 0 + 0 ≤ _)⟩)
  dsimp only [Pt.U, Pt.locs, Pt.cells, Pt.slots] at X1 l1 y1 z1 st1 hQ1
  subst l1 y1 z1
  obtain ⟨rfl, N1q, eh1⟩ := hQ1
  have N1 := Fr.app N0 N1q
  obtain ⟨_, _, ⟨T2, L2, k2, n2⟩, -, X2, ⟨Lc2, hQ2, l2, y2, z2⟩, st2⟩ := Jvm.LawKit.callS X1 hx (y := (⟨"com/example/fat_envelope/fatenvelope/QuotedPrintableOutputStreamAlwaysEscapesPinLaw", "expected", "(I)Z"⟩ : MethodName)) hown (mvT hZ (hw _ (List.mem_of_getElem? (i := 4) rfl))) (mvT hZ (hw _ (List.mem_of_getElem? (i := 5) rfl))) (mvT hZ (hw _ (List.mem_of_getElem? (i := 6) rfl))) (mvT hZ (hw _ (List.mem_of_getElem? (i := 7) rfl))) (by decide) (backOf (W := 1) (rm2 l Z a0 hw [] p0_0 h0 n0 Z0 ) hZ (hw _ (List.mem_of_getElem? (i := 7) rfl)) (hw _ (List.mem_of_getElem? (i := 6) rfl)) (by decide) (by decide)) (g := (mkF m 11 #[.val (.int p0_0), .val (.int p0_1), .val (.int (p0_1 &&& (255 : Int32))), .unset] [(.int p0_0), (.int (own_esc p0_0))])) rfl (by rw [hml]; rfl) (argsL := [(.int p0_0)]) (rest := [(.int (own_esc p0_0))]) (lenOf pd_0 rfl) rfl (by show 2 * 0 + _ ≤ _; exact Nat.le_of_eq rfl) (hb hby at_11) (fun _ _ => ⟨rfl, eh1, (by decide : 0 + 0 ≤ _), (by decide : 0 + 0 ≤ _)⟩)
  dsimp only [Pt.U, Pt.locs, Pt.cells, Pt.slots] at X2 l2 y2 z2 st2 hQ2
  subst l2 y2 z2
  obtain ⟨rfl, N2q, eh2⟩ := hQ2
  have N2 := Fr.app N1 N2q
  obtain ⟨_, _, ⟨T3, L3, k3, n3⟩, -, X3, ⟨Lc3, hQ3, l3, y3, z3⟩, st3⟩ := Jvm.LawKit.callS X2 hx (y := (⟨"com/example/fat_envelope/fatenvelope/QuotedPrintableOutputStream", "alwaysEscapes", "(I)Z"⟩ : MethodName)) hown (mvT hZ (hw _ (List.mem_of_getElem? (i := 0) rfl))) (mvT hZ (hw _ (List.mem_of_getElem? (i := 1) rfl))) (mvT hZ (hw _ (List.mem_of_getElem? (i := 2) rfl))) (mvT hZ (hw _ (List.mem_of_getElem? (i := 3) rfl))) (by decide) (backOf (W := 0) (rm1 l Z a0 hw [] (p0_1 &&& (255 : Int32)) h0 n0 Z0 ) hZ (hw _ (List.mem_of_getElem? (i := 3) rfl)) (hw _ (List.mem_of_getElem? (i := 2) rfl)) (by decide) (by decide)) (g := (mkF m 28 #[.val (.int p0_0), .val (.int p0_1), .val (.int (p0_1 &&& (255 : Int32))), .val (.int (1 : Int32))] [(.int (p0_1 &&& (255 : Int32)))])) rfl (by rw [hml]; rfl) (argsL := [(.int (p0_1 &&& (255 : Int32)))]) (rest := []) (lenOf pd_0 rfl) rfl (by show 2 * 0 + _ ≤ _; exact Nat.le_of_eq rfl) (hb hby at_28) (fun _ _ => ⟨rfl, eh2, (by decide : 0 + 0 ≤ _), (by decide : 0 + 0 ≤ _)⟩)
  dsimp only [Pt.U, Pt.locs, Pt.cells, Pt.slots] at X3 l3 y3 z3 st3 hQ3
  subst l3 y3 z3
  obtain ⟨rfl, N3q, eh3⟩ := hQ3
  have N3 := Fr.app N2 N3q
  obtain ⟨_, _, ⟨T4, L4, k4, n4⟩, -, X4, ⟨Lc4, hQ4, l4, y4, z4⟩, st4⟩ := Jvm.LawKit.callS X3 hx (y := (⟨"com/example/fat_envelope/fatenvelope/QuotedPrintableOutputStreamAlwaysEscapesPinLaw", "expected", "(I)Z"⟩ : MethodName)) hown (mvT hZ (hw _ (List.mem_of_getElem? (i := 4) rfl))) (mvT hZ (hw _ (List.mem_of_getElem? (i := 5) rfl))) (mvT hZ (hw _ (List.mem_of_getElem? (i := 6) rfl))) (mvT hZ (hw _ (List.mem_of_getElem? (i := 7) rfl))) (by decide) (backOf (W := 1) (rm2 l Z a0 hw [] (p0_1 &&& (255 : Int32)) h0 n0 Z0 ) hZ (hw _ (List.mem_of_getElem? (i := 7) rfl)) (hw _ (List.mem_of_getElem? (i := 6) rfl)) (by decide) (by decide)) (g := (mkF m 32 #[.val (.int p0_0), .val (.int p0_1), .val (.int (p0_1 &&& (255 : Int32))), .val (.int (1 : Int32))] [(.int (p0_1 &&& (255 : Int32))), (.int (own_esc (p0_1 &&& (255 : Int32))))])) rfl (by rw [hml]; rfl) (argsL := [(.int (p0_1 &&& (255 : Int32)))]) (rest := [(.int (own_esc (p0_1 &&& (255 : Int32))))]) (lenOf pd_0 rfl) rfl (by show 2 * 0 + _ ≤ _; exact Nat.le_of_eq rfl) (hb hby at_32) (fun _ _ => ⟨rfl, eh3, (by decide : 0 + 0 ≤ _), (by decide : 0 + 0 ≤ _)⟩)
  dsimp only [Pt.U, Pt.locs, Pt.cells, Pt.slots] at X4 l4 y4 z4 st4 hQ4
  subst l4 y4 z4
  obtain ⟨rfl, N4q, eh4⟩ := hQ4
  have N4 := Fr.app N3 N4q
  obtain ⟨_, _, ⟨T5, L5, k5, n5⟩, -, X5, ⟨Lc5, hQ5, l5, y5, z5⟩, st5⟩ := Jvm.LawKit.callS X4 hx (y := (⟨"com/example/fat_envelope/fatenvelope/QuotedPrintableOutputStream", "alwaysEscapes", "(I)Z"⟩ : MethodName)) hown (mvT hZ (hw _ (List.mem_of_getElem? (i := 0) rfl))) (mvT hZ (hw _ (List.mem_of_getElem? (i := 1) rfl))) (mvT hZ (hw _ (List.mem_of_getElem? (i := 2) rfl))) (mvT hZ (hw _ (List.mem_of_getElem? (i := 3) rfl))) (by decide) (backOf (W := 0) (rm1 l Z a0 hw [] (61 : Int32) h0 n0 Z0 ) hZ (hw _ (List.mem_of_getElem? (i := 3) rfl)) (hw _ (List.mem_of_getElem? (i := 2) rfl)) (by decide) (by decide)) (g := (mkF m 50 #[.val (.int p0_0), .val (.int p0_1), .val (.int (p0_1 &&& (255 : Int32))), .val (.int (1 : Int32))] [(.int (61 : Int32))])) rfl (by rw [hml]; rfl) (argsL := [(.int (61 : Int32))]) (rest := []) (lenOf pd_0 rfl) rfl (by show 2 * 0 + _ ≤ _; exact Nat.le_of_eq rfl) (hb hby at_50) (fun _ _ => ⟨rfl, eh4, (by decide : 0 + 0 ≤ _), (by decide : 0 + 0 ≤ _)⟩)
  dsimp only [Pt.U, Pt.locs, Pt.cells, Pt.slots] at X5 l5 y5 z5 st5 hQ5
  subst l5 y5 z5
  obtain ⟨rfl, N5q, eh5⟩ := hQ5
  have N5 := Fr.app N4 N5q
  obtain ⟨_, _, ⟨T6, L6, k6, n6⟩, -, X6, ⟨Lc6, hQ6, l6, y6, z6⟩, st6⟩ := Jvm.LawKit.callS X5 hx (y := (⟨"com/example/fat_envelope/fatenvelope/QuotedPrintableOutputStream", "alwaysEscapes", "(I)Z"⟩ : MethodName)) hown (mvT hZ (hw _ (List.mem_of_getElem? (i := 0) rfl))) (mvT hZ (hw _ (List.mem_of_getElem? (i := 1) rfl))) (mvT hZ (hw _ (List.mem_of_getElem? (i := 2) rfl))) (mvT hZ (hw _ (List.mem_of_getElem? (i := 3) rfl))) (by decide) (backOf (W := 0) (rm1 l Z a0 hw [] (32 : Int32) h0 n0 Z0 ) hZ (hw _ (List.mem_of_getElem? (i := 3) rfl)) (hw _ (List.mem_of_getElem? (i := 2) rfl)) (by decide) (by decide)) (g := (mkF m 68 #[.val (.int p0_0), .val (.int p0_1), .val (.int (p0_1 &&& (255 : Int32))), .val (.int (1 : Int32))] [(.int (32 : Int32))])) rfl (by rw [hml]; rfl) (argsL := [(.int (32 : Int32))]) (rest := []) (lenOf pd_0 rfl) rfl (by show 2 * 0 + _ ≤ _; exact Nat.le_of_eq rfl) (hb hby at_68) (fun _ _ => ⟨rfl, eh5, (by decide : 0 + 0 ≤ _), (by decide : 0 + 0 ≤ _)⟩)
  dsimp only [Pt.U, Pt.locs, Pt.cells, Pt.slots] at X6 l6 y6 z6 st6 hQ6
  subst l6 y6 z6
  obtain ⟨rfl, N6q, eh6⟩ := hQ6
  have N6 := Fr.app N5 N6q
  obtain ⟨_, _, ⟨T7, L7, k7, n7⟩, -, X7, ⟨Lc7, hQ7, l7, y7, z7⟩, st7⟩ := Jvm.LawKit.callS X6 hx (y := (⟨"com/example/fat_envelope/fatenvelope/QuotedPrintableOutputStream", "alwaysEscapes", "(I)Z"⟩ : MethodName)) hown (mvT hZ (hw _ (List.mem_of_getElem? (i := 0) rfl))) (mvT hZ (hw _ (List.mem_of_getElem? (i := 1) rfl))) (mvT hZ (hw _ (List.mem_of_getElem? (i := 2) rfl))) (mvT hZ (hw _ (List.mem_of_getElem? (i := 3) rfl))) (by decide) (backOf (W := 0) (rm1 l Z a0 hw [] (9 : Int32) h0 n0 Z0 ) hZ (hw _ (List.mem_of_getElem? (i := 3) rfl)) (hw _ (List.mem_of_getElem? (i := 2) rfl)) (by decide) (by decide)) (g := (mkF m 86 #[.val (.int p0_0), .val (.int p0_1), .val (.int (p0_1 &&& (255 : Int32))), .val (.int (1 : Int32))] [(.int (9 : Int32))])) rfl (by rw [hml]; rfl) (argsL := [(.int (9 : Int32))]) (rest := []) (lenOf pd_0 rfl) rfl (by show 2 * 0 + _ ≤ _; exact Nat.le_of_eq rfl) (hb hby at_86) (fun _ _ => ⟨rfl, eh6, (by decide : 0 + 0 ≤ _), (by decide : 0 + 0 ≤ _)⟩)
  dsimp only [Pt.U, Pt.locs, Pt.cells, Pt.slots] at X7 l7 y7 z7 st7 hQ7
  subst l7 y7 z7
  obtain ⟨rfl, N7q, eh7⟩ := hQ7
  have N7 := Fr.app N6 N7q
  obtain ⟨_, _, ⟨T8, L8, k8, n8⟩, -, X8, ⟨Lc8, hQ8, l8, y8, z8⟩, st8⟩ := Jvm.LawKit.callS X7 hx (y := (⟨"com/example/fat_envelope/fatenvelope/QuotedPrintableOutputStream", "alwaysEscapes", "(I)Z"⟩ : MethodName)) hown (mvT hZ (hw _ (List.mem_of_getElem? (i := 0) rfl))) (mvT hZ (hw _ (List.mem_of_getElem? (i := 1) rfl))) (mvT hZ (hw _ (List.mem_of_getElem? (i := 2) rfl))) (mvT hZ (hw _ (List.mem_of_getElem? (i := 3) rfl))) (by decide) (backOf (W := 0) (rm1 l Z a0 hw [] (33 : Int32) h0 n0 Z0 ) hZ (hw _ (List.mem_of_getElem? (i := 3) rfl)) (hw _ (List.mem_of_getElem? (i := 2) rfl)) (by decide) (by decide)) (g := (mkF m 104 #[.val (.int p0_0), .val (.int p0_1), .val (.int (p0_1 &&& (255 : Int32))), .val (.int (1 : Int32))] [(.int (33 : Int32))])) rfl (by rw [hml]; rfl) (argsL := [(.int (33 : Int32))]) (rest := []) (lenOf pd_0 rfl) rfl (by show 2 * 0 + _ ≤ _; exact Nat.le_of_eq rfl) (hb hby at_104) (fun _ _ => ⟨rfl, eh7, (by decide : 0 + 0 ≤ _), (by decide : 0 + 0 ≤ _)⟩)
  dsimp only [Pt.U, Pt.locs, Pt.cells, Pt.slots] at X8 l8 y8 z8 st8 hQ8
  subst l8 y8 z8
  obtain ⟨rfl, N8q, eh8⟩ := hQ8
  have N8 := Fr.app N7 N8q
  obtain ⟨_, _, ⟨T9, L9, k9, n9⟩, -, X9, ⟨Lc9, hQ9, l9, y9, z9⟩, st9⟩ := Jvm.LawKit.callS X8 hx (y := (⟨"com/example/fat_envelope/fatenvelope/QuotedPrintableOutputStream", "alwaysEscapes", "(I)Z"⟩ : MethodName)) hown (mvT hZ (hw _ (List.mem_of_getElem? (i := 0) rfl))) (mvT hZ (hw _ (List.mem_of_getElem? (i := 1) rfl))) (mvT hZ (hw _ (List.mem_of_getElem? (i := 2) rfl))) (mvT hZ (hw _ (List.mem_of_getElem? (i := 3) rfl))) (by decide) (backOf (W := 0) (rm1 l Z a0 hw [] (126 : Int32) h0 n0 Z0 ) hZ (hw _ (List.mem_of_getElem? (i := 3) rfl)) (hw _ (List.mem_of_getElem? (i := 2) rfl)) (by decide) (by decide)) (g := (mkF m 122 #[.val (.int p0_0), .val (.int p0_1), .val (.int (p0_1 &&& (255 : Int32))), .val (.int (1 : Int32))] [(.int (126 : Int32))])) rfl (by rw [hml]; rfl) (argsL := [(.int (126 : Int32))]) (rest := []) (lenOf pd_0 rfl) rfl (by show 2 * 0 + _ ≤ _; exact Nat.le_of_eq rfl) (hb hby at_122) (fun _ _ => ⟨rfl, eh8, (by decide : 0 + 0 ≤ _), (by decide : 0 + 0 ≤ _)⟩)
  dsimp only [Pt.U, Pt.locs, Pt.cells, Pt.slots] at X9 l9 y9 z9 st9 hQ9
  subst l9 y9 z9
  obtain ⟨rfl, N9q, eh9⟩ := hQ9
  have N9 := Fr.app N8 N9q
  obtain ⟨_, _, ⟨T10, L10, k10, n10⟩, -, X10, ⟨Lc10, hQ10, l10, y10, z10⟩, st10⟩ := Jvm.LawKit.callS X9 hx (y := (⟨"com/example/fat_envelope/fatenvelope/QuotedPrintableOutputStream", "alwaysEscapes", "(I)Z"⟩ : MethodName)) hown (mvT hZ (hw _ (List.mem_of_getElem? (i := 0) rfl))) (mvT hZ (hw _ (List.mem_of_getElem? (i := 1) rfl))) (mvT hZ (hw _ (List.mem_of_getElem? (i := 2) rfl))) (mvT hZ (hw _ (List.mem_of_getElem? (i := 3) rfl))) (by decide) (backOf (W := 0) (rm1 l Z a0 hw [] (127 : Int32) h0 n0 Z0 ) hZ (hw _ (List.mem_of_getElem? (i := 3) rfl)) (hw _ (List.mem_of_getElem? (i := 2) rfl)) (by decide) (by decide)) (g := (mkF m 140 #[.val (.int p0_0), .val (.int p0_1), .val (.int (p0_1 &&& (255 : Int32))), .val (.int (1 : Int32))] [(.int (127 : Int32))])) rfl (by rw [hml]; rfl) (argsL := [(.int (127 : Int32))]) (rest := []) (lenOf pd_0 rfl) rfl (by show 2 * 0 + _ ≤ _; exact Nat.le_of_eq rfl) (hb hby at_140) (fun _ _ => ⟨rfl, eh9, (by decide : 0 + 0 ≤ _), (by decide : 0 + 0 ≤ _)⟩)
  dsimp only [Pt.U, Pt.locs, Pt.cells, Pt.slots] at X10 l10 y10 z10 st10 hQ10
  subst l10 y10 z10
  obtain ⟨rfl, N10q, eh10⟩ := hQ10
  have N10 := Fr.app N9 N10q
  have k11 : ∀ t, Steps p.tables e below (T10.setTop (mkF m 153 #[.val (.int p0_0), .val (.int p0_1), .val (.int (p0_1 &&& (255 : Int32))), .val (.int (1 : Int32))] [(.int (1 : Int32))])) t → Steps p.tables e below (s₁.setTop (entryFrame m #[(.int p0_0), (.int p0_1)] maxLocals)) t := by
    intro t k
    refine pre0 t ?_
    show Steps p.tables e below (s₁.setTop (mkF m 0 #[.val (.int p0_0), .val (.int p0_1), .unset, .unset] [])) _
    refine XS.iloadN X0.here hx rfl (hb hby at_0) rfl ?_
    show Steps p.tables e below (s₁.setTop (mkF m 1 #[.val (.int p0_0), .val (.int p0_1), .unset, .unset] [(.int p0_1)])) _
    refine XS.sipush X0.here hx rfl (hb hby at_1) ?_
    show Steps p.tables e below (s₁.setTop (mkF m 4 #[.val (.int p0_0), .val (.int p0_1), .unset, .unset] [(.int (255 : Int32)), (.int p0_1)])) _
    refine XS.iand X0.here hx rfl (hb hby at_4) rfl ?_
    show Steps p.tables e below (s₁.setTop (mkF m 5 #[.val (.int p0_0), .val (.int p0_1), .unset, .unset] [(.int (p0_1 &&& (255 : Int32)))])) _
    refine XS.istoreN X0.here hx rfl (hb hby at_5) rfl (l' := #[.val (.int p0_0), .val (.int p0_1), .val (.int (p0_1 &&& (255 : Int32))), .unset]) rfl ?_
    show Steps p.tables e below (s₁.setTop (mkF m 6 #[.val (.int p0_0), .val (.int p0_1), .val (.int (p0_1 &&& (255 : Int32))), .unset] [])) _
    refine XS.iloadN X0.here hx rfl (hb hby at_6) rfl ?_
    show Steps p.tables e below (s₁.setTop (mkF m 7 #[.val (.int p0_0), .val (.int p0_1), .val (.int (p0_1 &&& (255 : Int32))), .unset] [(.int p0_0)])) _
    refine st1 _ ?_
    show Steps p.tables e below (T1.setTop (mkF m 10 #[.val (.int p0_0), .val (.int p0_1), .val (.int (p0_1 &&& (255 : Int32))), .unset] [(.int (own_esc p0_0))])) _
    refine XS.iloadN X1.here hx rfl (hb hby at_10) rfl ?_
    show Steps p.tables e below (T1.setTop (mkF m 11 #[.val (.int p0_0), .val (.int p0_1), .val (.int (p0_1 &&& (255 : Int32))), .unset] [(.int p0_0), (.int (own_esc p0_0))])) _
    refine st2 _ ?_
    show Steps p.tables e below (T2.setTop (mkF m 14 #[.val (.int p0_0), .val (.int p0_1), .val (.int (p0_1 &&& (255 : Int32))), .unset] [(.int (own_exp p0_0)), (.int (own_esc p0_0))])) _
    refine XS.icmpNo X2.here hx rfl (hb hby at_14) rfl (teq (own_law _)).2 ?_
    show Steps p.tables e below (T2.setTop (mkF m 17 #[.val (.int p0_0), .val (.int p0_1), .val (.int (p0_1 &&& (255 : Int32))), .unset] [])) _
    refine XS.iconst X2.here hx rfl (hb hby at_17) ?_
    show Steps p.tables e below (T2.setTop (mkF m 18 #[.val (.int p0_0), .val (.int p0_1), .val (.int (p0_1 &&& (255 : Int32))), .unset] [(.int (1 : Int32))])) _
    refine XS.goto X2.here hx rfl (pc0 := 18) (pc' := 22) rfl (hb hby at_18) (by decide) (by decide) ?_
    show Steps p.tables e below (T2.setTop (mkF m 22 #[.val (.int p0_0), .val (.int p0_1), .val (.int (p0_1 &&& (255 : Int32))), .unset] [(.int (1 : Int32))])) _
    refine XS.istoreN X2.here hx rfl (hb hby at_22) rfl (l' := #[.val (.int p0_0), .val (.int p0_1), .val (.int (p0_1 &&& (255 : Int32))), .val (.int (1 : Int32))]) rfl ?_
    show Steps p.tables e below (T2.setTop (mkF m 23 #[.val (.int p0_0), .val (.int p0_1), .val (.int (p0_1 &&& (255 : Int32))), .val (.int (1 : Int32))] [])) _
    refine XS.iloadN X2.here hx rfl (hb hby at_23) rfl ?_
    show Steps p.tables e below (T2.setTop (mkF m 24 #[.val (.int p0_0), .val (.int p0_1), .val (.int (p0_1 &&& (255 : Int32))), .val (.int (1 : Int32))] [(.int (1 : Int32))])) _
    refine XS.ifNo X2.here hx rfl (hb hby at_24) rfl ((if0 _ _).trans (feq (by decide : ¬ ((1 : Int32) = (0 : Int32)))).1) ?_
    show Steps p.tables e below (T2.setTop (mkF m 27 #[.val (.int p0_0), .val (.int p0_1), .val (.int (p0_1 &&& (255 : Int32))), .val (.int (1 : Int32))] [])) _
    refine XS.iloadN X2.here hx rfl (hb hby at_27) rfl ?_
    show Steps p.tables e below (T2.setTop (mkF m 28 #[.val (.int p0_0), .val (.int p0_1), .val (.int (p0_1 &&& (255 : Int32))), .val (.int (1 : Int32))] [(.int (p0_1 &&& (255 : Int32)))])) _
    refine st3 _ ?_
    show Steps p.tables e below (T3.setTop (mkF m 31 #[.val (.int p0_0), .val (.int p0_1), .val (.int (p0_1 &&& (255 : Int32))), .val (.int (1 : Int32))] [(.int (own_esc (p0_1 &&& (255 : Int32))))])) _
    refine XS.iloadN X3.here hx rfl (hb hby at_31) rfl ?_
    show Steps p.tables e below (T3.setTop (mkF m 32 #[.val (.int p0_0), .val (.int p0_1), .val (.int (p0_1 &&& (255 : Int32))), .val (.int (1 : Int32))] [(.int (p0_1 &&& (255 : Int32))), (.int (own_esc (p0_1 &&& (255 : Int32))))])) _
    refine st4 _ ?_
    show Steps p.tables e below (T4.setTop (mkF m 35 #[.val (.int p0_0), .val (.int p0_1), .val (.int (p0_1 &&& (255 : Int32))), .val (.int (1 : Int32))] [(.int (own_exp (p0_1 &&& (255 : Int32)))), (.int (own_esc (p0_1 &&& (255 : Int32))))])) _
    refine XS.icmpNo X4.here hx rfl (hb hby at_35) rfl (teq (own_law _)).2 ?_
    show Steps p.tables e below (T4.setTop (mkF m 38 #[.val (.int p0_0), .val (.int p0_1), .val (.int (p0_1 &&& (255 : Int32))), .val (.int (1 : Int32))] [])) _
    refine XS.iconst X4.here hx rfl (hb hby at_38) ?_
    show Steps p.tables e below (T4.setTop (mkF m 39 #[.val (.int p0_0), .val (.int p0_1), .val (.int (p0_1 &&& (255 : Int32))), .val (.int (1 : Int32))] [(.int (1 : Int32))])) _
    refine XS.goto X4.here hx rfl (pc0 := 39) (pc' := 43) rfl (hb hby at_39) (by decide) (by decide) ?_
    show Steps p.tables e below (T4.setTop (mkF m 43 #[.val (.int p0_0), .val (.int p0_1), .val (.int (p0_1 &&& (255 : Int32))), .val (.int (1 : Int32))] [(.int (1 : Int32))])) _
    refine XS.istoreN X4.here hx rfl (hb hby at_43) rfl (l' := #[.val (.int p0_0), .val (.int p0_1), .val (.int (p0_1 &&& (255 : Int32))), .val (.int (1 : Int32))]) rfl ?_
    show Steps p.tables e below (T4.setTop (mkF m 44 #[.val (.int p0_0), .val (.int p0_1), .val (.int (p0_1 &&& (255 : Int32))), .val (.int (1 : Int32))] [])) _
    refine XS.iloadN X4.here hx rfl (hb hby at_44) rfl ?_
    show Steps p.tables e below (T4.setTop (mkF m 45 #[.val (.int p0_0), .val (.int p0_1), .val (.int (p0_1 &&& (255 : Int32))), .val (.int (1 : Int32))] [(.int (1 : Int32))])) _
    refine XS.ifNo X4.here hx rfl (hb hby at_45) rfl ((if0 _ _).trans (feq (by decide : ¬ ((1 : Int32) = (0 : Int32)))).1) ?_
    show Steps p.tables e below (T4.setTop (mkF m 48 #[.val (.int p0_0), .val (.int p0_1), .val (.int (p0_1 &&& (255 : Int32))), .val (.int (1 : Int32))] [])) _
    refine XS.bipush X4.here hx rfl (hb hby at_48) ?_
    show Steps p.tables e below (T4.setTop (mkF m 50 #[.val (.int p0_0), .val (.int p0_1), .val (.int (p0_1 &&& (255 : Int32))), .val (.int (1 : Int32))] [(.int (61 : Int32))])) _
    refine st5 _ ?_
    show Steps p.tables e below (T5.setTop (mkF m 53 #[.val (.int p0_0), .val (.int p0_1), .val (.int (p0_1 &&& (255 : Int32))), .val (.int (1 : Int32))] [(.int (own_esc (61 : Int32)))])) _
    refine XS.ifNo X5.here hx rfl (hb hby at_53) rfl ((if0 _ _).trans (feq (by decide : ¬ ((own_esc (61 : Int32)) = (0 : Int32)))).1) ?_
    show Steps p.tables e below (T5.setTop (mkF m 56 #[.val (.int p0_0), .val (.int p0_1), .val (.int (p0_1 &&& (255 : Int32))), .val (.int (1 : Int32))] [])) _
    refine XS.iconst X5.here hx rfl (hb hby at_56) ?_
    show Steps p.tables e below (T5.setTop (mkF m 57 #[.val (.int p0_0), .val (.int p0_1), .val (.int (p0_1 &&& (255 : Int32))), .val (.int (1 : Int32))] [(.int (1 : Int32))])) _
    refine XS.goto X5.here hx rfl (pc0 := 57) (pc' := 61) rfl (hb hby at_57) (by decide) (by decide) ?_
    show Steps p.tables e below (T5.setTop (mkF m 61 #[.val (.int p0_0), .val (.int p0_1), .val (.int (p0_1 &&& (255 : Int32))), .val (.int (1 : Int32))] [(.int (1 : Int32))])) _
    refine XS.istoreN X5.here hx rfl (hb hby at_61) rfl (l' := #[.val (.int p0_0), .val (.int p0_1), .val (.int (p0_1 &&& (255 : Int32))), .val (.int (1 : Int32))]) rfl ?_
    show Steps p.tables e below (T5.setTop (mkF m 62 #[.val (.int p0_0), .val (.int p0_1), .val (.int (p0_1 &&& (255 : Int32))), .val (.int (1 : Int32))] [])) _
    refine XS.iloadN X5.here hx rfl (hb hby at_62) rfl ?_
    show Steps p.tables e below (T5.setTop (mkF m 63 #[.val (.int p0_0), .val (.int p0_1), .val (.int (p0_1 &&& (255 : Int32))), .val (.int (1 : Int32))] [(.int (1 : Int32))])) _
    refine XS.ifNo X5.here hx rfl (hb hby at_63) rfl ((if0 _ _).trans (feq (by decide : ¬ ((1 : Int32) = (0 : Int32)))).1) ?_
    show Steps p.tables e below (T5.setTop (mkF m 66 #[.val (.int p0_0), .val (.int p0_1), .val (.int (p0_1 &&& (255 : Int32))), .val (.int (1 : Int32))] [])) _
    refine XS.bipush X5.here hx rfl (hb hby at_66) ?_
    show Steps p.tables e below (T5.setTop (mkF m 68 #[.val (.int p0_0), .val (.int p0_1), .val (.int (p0_1 &&& (255 : Int32))), .val (.int (1 : Int32))] [(.int (32 : Int32))])) _
    refine st6 _ ?_
    show Steps p.tables e below (T6.setTop (mkF m 71 #[.val (.int p0_0), .val (.int p0_1), .val (.int (p0_1 &&& (255 : Int32))), .val (.int (1 : Int32))] [(.int (own_esc (32 : Int32)))])) _
    refine XS.ifNo X6.here hx rfl (hb hby at_71) rfl ((if0 _ _).trans (teq (by decide : (own_esc (32 : Int32)) = (0 : Int32))).2) ?_
    show Steps p.tables e below (T6.setTop (mkF m 74 #[.val (.int p0_0), .val (.int p0_1), .val (.int (p0_1 &&& (255 : Int32))), .val (.int (1 : Int32))] [])) _
    refine XS.iconst X6.here hx rfl (hb hby at_74) ?_
    show Steps p.tables e below (T6.setTop (mkF m 75 #[.val (.int p0_0), .val (.int p0_1), .val (.int (p0_1 &&& (255 : Int32))), .val (.int (1 : Int32))] [(.int (1 : Int32))])) _
    refine XS.goto X6.here hx rfl (pc0 := 75) (pc' := 79) rfl (hb hby at_75) (by decide) (by decide) ?_
    show Steps p.tables e below (T6.setTop (mkF m 79 #[.val (.int p0_0), .val (.int p0_1), .val (.int (p0_1 &&& (255 : Int32))), .val (.int (1 : Int32))] [(.int (1 : Int32))])) _
    refine XS.istoreN X6.here hx rfl (hb hby at_79) rfl (l' := #[.val (.int p0_0), .val (.int p0_1), .val (.int (p0_1 &&& (255 : Int32))), .val (.int (1 : Int32))]) rfl ?_
    show Steps p.tables e below (T6.setTop (mkF m 80 #[.val (.int p0_0), .val (.int p0_1), .val (.int (p0_1 &&& (255 : Int32))), .val (.int (1 : Int32))] [])) _
    refine XS.iloadN X6.here hx rfl (hb hby at_80) rfl ?_
    show Steps p.tables e below (T6.setTop (mkF m 81 #[.val (.int p0_0), .val (.int p0_1), .val (.int (p0_1 &&& (255 : Int32))), .val (.int (1 : Int32))] [(.int (1 : Int32))])) _
    refine XS.ifNo X6.here hx rfl (hb hby at_81) rfl ((if0 _ _).trans (feq (by decide : ¬ ((1 : Int32) = (0 : Int32)))).1) ?_
    show Steps p.tables e below (T6.setTop (mkF m 84 #[.val (.int p0_0), .val (.int p0_1), .val (.int (p0_1 &&& (255 : Int32))), .val (.int (1 : Int32))] [])) _
    refine XS.bipush X6.here hx rfl (hb hby at_84) ?_
    show Steps p.tables e below (T6.setTop (mkF m 86 #[.val (.int p0_0), .val (.int p0_1), .val (.int (p0_1 &&& (255 : Int32))), .val (.int (1 : Int32))] [(.int (9 : Int32))])) _
    refine st7 _ ?_
    show Steps p.tables e below (T7.setTop (mkF m 89 #[.val (.int p0_0), .val (.int p0_1), .val (.int (p0_1 &&& (255 : Int32))), .val (.int (1 : Int32))] [(.int (own_esc (9 : Int32)))])) _
    refine XS.ifNo X7.here hx rfl (hb hby at_89) rfl ((if0 _ _).trans (teq (by decide : (own_esc (9 : Int32)) = (0 : Int32))).2) ?_
    show Steps p.tables e below (T7.setTop (mkF m 92 #[.val (.int p0_0), .val (.int p0_1), .val (.int (p0_1 &&& (255 : Int32))), .val (.int (1 : Int32))] [])) _
    refine XS.iconst X7.here hx rfl (hb hby at_92) ?_
    show Steps p.tables e below (T7.setTop (mkF m 93 #[.val (.int p0_0), .val (.int p0_1), .val (.int (p0_1 &&& (255 : Int32))), .val (.int (1 : Int32))] [(.int (1 : Int32))])) _
    refine XS.goto X7.here hx rfl (pc0 := 93) (pc' := 97) rfl (hb hby at_93) (by decide) (by decide) ?_
    show Steps p.tables e below (T7.setTop (mkF m 97 #[.val (.int p0_0), .val (.int p0_1), .val (.int (p0_1 &&& (255 : Int32))), .val (.int (1 : Int32))] [(.int (1 : Int32))])) _
    refine XS.istoreN X7.here hx rfl (hb hby at_97) rfl (l' := #[.val (.int p0_0), .val (.int p0_1), .val (.int (p0_1 &&& (255 : Int32))), .val (.int (1 : Int32))]) rfl ?_
    show Steps p.tables e below (T7.setTop (mkF m 98 #[.val (.int p0_0), .val (.int p0_1), .val (.int (p0_1 &&& (255 : Int32))), .val (.int (1 : Int32))] [])) _
    refine XS.iloadN X7.here hx rfl (hb hby at_98) rfl ?_
    show Steps p.tables e below (T7.setTop (mkF m 99 #[.val (.int p0_0), .val (.int p0_1), .val (.int (p0_1 &&& (255 : Int32))), .val (.int (1 : Int32))] [(.int (1 : Int32))])) _
    refine XS.ifNo X7.here hx rfl (hb hby at_99) rfl ((if0 _ _).trans (feq (by decide : ¬ ((1 : Int32) = (0 : Int32)))).1) ?_
    show Steps p.tables e below (T7.setTop (mkF m 102 #[.val (.int p0_0), .val (.int p0_1), .val (.int (p0_1 &&& (255 : Int32))), .val (.int (1 : Int32))] [])) _
    refine XS.bipush X7.here hx rfl (hb hby at_102) ?_
    show Steps p.tables e below (T7.setTop (mkF m 104 #[.val (.int p0_0), .val (.int p0_1), .val (.int (p0_1 &&& (255 : Int32))), .val (.int (1 : Int32))] [(.int (33 : Int32))])) _
    refine st8 _ ?_
    show Steps p.tables e below (T8.setTop (mkF m 107 #[.val (.int p0_0), .val (.int p0_1), .val (.int (p0_1 &&& (255 : Int32))), .val (.int (1 : Int32))] [(.int (own_esc (33 : Int32)))])) _
    refine XS.ifNo X8.here hx rfl (hb hby at_107) rfl ((if0 _ _).trans (teq (by decide : (own_esc (33 : Int32)) = (0 : Int32))).2) ?_
    show Steps p.tables e below (T8.setTop (mkF m 110 #[.val (.int p0_0), .val (.int p0_1), .val (.int (p0_1 &&& (255 : Int32))), .val (.int (1 : Int32))] [])) _
    refine XS.iconst X8.here hx rfl (hb hby at_110) ?_
    show Steps p.tables e below (T8.setTop (mkF m 111 #[.val (.int p0_0), .val (.int p0_1), .val (.int (p0_1 &&& (255 : Int32))), .val (.int (1 : Int32))] [(.int (1 : Int32))])) _
    refine XS.goto X8.here hx rfl (pc0 := 111) (pc' := 115) rfl (hb hby at_111) (by decide) (by decide) ?_
    show Steps p.tables e below (T8.setTop (mkF m 115 #[.val (.int p0_0), .val (.int p0_1), .val (.int (p0_1 &&& (255 : Int32))), .val (.int (1 : Int32))] [(.int (1 : Int32))])) _
    refine XS.istoreN X8.here hx rfl (hb hby at_115) rfl (l' := #[.val (.int p0_0), .val (.int p0_1), .val (.int (p0_1 &&& (255 : Int32))), .val (.int (1 : Int32))]) rfl ?_
    show Steps p.tables e below (T8.setTop (mkF m 116 #[.val (.int p0_0), .val (.int p0_1), .val (.int (p0_1 &&& (255 : Int32))), .val (.int (1 : Int32))] [])) _
    refine XS.iloadN X8.here hx rfl (hb hby at_116) rfl ?_
    show Steps p.tables e below (T8.setTop (mkF m 117 #[.val (.int p0_0), .val (.int p0_1), .val (.int (p0_1 &&& (255 : Int32))), .val (.int (1 : Int32))] [(.int (1 : Int32))])) _
    refine XS.ifNo X8.here hx rfl (hb hby at_117) rfl ((if0 _ _).trans (feq (by decide : ¬ ((1 : Int32) = (0 : Int32)))).1) ?_
    show Steps p.tables e below (T8.setTop (mkF m 120 #[.val (.int p0_0), .val (.int p0_1), .val (.int (p0_1 &&& (255 : Int32))), .val (.int (1 : Int32))] [])) _
    refine XS.bipush X8.here hx rfl (hb hby at_120) ?_
    show Steps p.tables e below (T8.setTop (mkF m 122 #[.val (.int p0_0), .val (.int p0_1), .val (.int (p0_1 &&& (255 : Int32))), .val (.int (1 : Int32))] [(.int (126 : Int32))])) _
    refine st9 _ ?_
    show Steps p.tables e below (T9.setTop (mkF m 125 #[.val (.int p0_0), .val (.int p0_1), .val (.int (p0_1 &&& (255 : Int32))), .val (.int (1 : Int32))] [(.int (own_esc (126 : Int32)))])) _
    refine XS.ifNo X9.here hx rfl (hb hby at_125) rfl ((if0 _ _).trans (teq (by decide : (own_esc (126 : Int32)) = (0 : Int32))).2) ?_
    show Steps p.tables e below (T9.setTop (mkF m 128 #[.val (.int p0_0), .val (.int p0_1), .val (.int (p0_1 &&& (255 : Int32))), .val (.int (1 : Int32))] [])) _
    refine XS.iconst X9.here hx rfl (hb hby at_128) ?_
    show Steps p.tables e below (T9.setTop (mkF m 129 #[.val (.int p0_0), .val (.int p0_1), .val (.int (p0_1 &&& (255 : Int32))), .val (.int (1 : Int32))] [(.int (1 : Int32))])) _
    refine XS.goto X9.here hx rfl (pc0 := 129) (pc' := 133) rfl (hb hby at_129) (by decide) (by decide) ?_
    show Steps p.tables e below (T9.setTop (mkF m 133 #[.val (.int p0_0), .val (.int p0_1), .val (.int (p0_1 &&& (255 : Int32))), .val (.int (1 : Int32))] [(.int (1 : Int32))])) _
    refine XS.istoreN X9.here hx rfl (hb hby at_133) rfl (l' := #[.val (.int p0_0), .val (.int p0_1), .val (.int (p0_1 &&& (255 : Int32))), .val (.int (1 : Int32))]) rfl ?_
    show Steps p.tables e below (T9.setTop (mkF m 134 #[.val (.int p0_0), .val (.int p0_1), .val (.int (p0_1 &&& (255 : Int32))), .val (.int (1 : Int32))] [])) _
    refine XS.iloadN X9.here hx rfl (hb hby at_134) rfl ?_
    show Steps p.tables e below (T9.setTop (mkF m 135 #[.val (.int p0_0), .val (.int p0_1), .val (.int (p0_1 &&& (255 : Int32))), .val (.int (1 : Int32))] [(.int (1 : Int32))])) _
    refine XS.ifNo X9.here hx rfl (hb hby at_135) rfl ((if0 _ _).trans (feq (by decide : ¬ ((1 : Int32) = (0 : Int32)))).1) ?_
    show Steps p.tables e below (T9.setTop (mkF m 138 #[.val (.int p0_0), .val (.int p0_1), .val (.int (p0_1 &&& (255 : Int32))), .val (.int (1 : Int32))] [])) _
    refine XS.bipush X9.here hx rfl (hb hby at_138) ?_
    show Steps p.tables e below (T9.setTop (mkF m 140 #[.val (.int p0_0), .val (.int p0_1), .val (.int (p0_1 &&& (255 : Int32))), .val (.int (1 : Int32))] [(.int (127 : Int32))])) _
    refine st10 _ ?_
    show Steps p.tables e below (T10.setTop (mkF m 143 #[.val (.int p0_0), .val (.int p0_1), .val (.int (p0_1 &&& (255 : Int32))), .val (.int (1 : Int32))] [(.int (own_esc (127 : Int32)))])) _
    refine XS.ifNo X10.here hx rfl (hb hby at_143) rfl ((if0 _ _).trans (feq (by decide : ¬ ((own_esc (127 : Int32)) = (0 : Int32)))).1) ?_
    show Steps p.tables e below (T10.setTop (mkF m 146 #[.val (.int p0_0), .val (.int p0_1), .val (.int (p0_1 &&& (255 : Int32))), .val (.int (1 : Int32))] [])) _
    refine XS.iconst X10.here hx rfl (hb hby at_146) ?_
    show Steps p.tables e below (T10.setTop (mkF m 147 #[.val (.int p0_0), .val (.int p0_1), .val (.int (p0_1 &&& (255 : Int32))), .val (.int (1 : Int32))] [(.int (1 : Int32))])) _
    refine XS.goto X10.here hx rfl (pc0 := 147) (pc' := 151) rfl (hb hby at_147) (by decide) (by decide) ?_
    show Steps p.tables e below (T10.setTop (mkF m 151 #[.val (.int p0_0), .val (.int p0_1), .val (.int (p0_1 &&& (255 : Int32))), .val (.int (1 : Int32))] [(.int (1 : Int32))])) _
    refine XS.istoreN X10.here hx rfl (hb hby at_151) rfl (l' := #[.val (.int p0_0), .val (.int p0_1), .val (.int (p0_1 &&& (255 : Int32))), .val (.int (1 : Int32))]) rfl ?_
    show Steps p.tables e below (T10.setTop (mkF m 152 #[.val (.int p0_0), .val (.int p0_1), .val (.int (p0_1 &&& (255 : Int32))), .val (.int (1 : Int32))] [])) _
    refine XS.iloadN X10.here hx rfl (hb hby at_152) rfl ?_
    exact k
  obtain ⟨fs, hr, hrun, hended, hW, hsame⟩ := X10.leave (v := some (.int (1 : Int32))) (fun h => by rw [Bd.returns] at h; cases h)
  refine ⟨_, _, k11 _ ?_, hrun, hended, _, _, rfl, ?_, ⟨_, rfl⟩, hW, hsame.mono (by decide) (by decide)⟩
  · exact retN X10 hx (t := .boolean) Bd.returns (by simp) (hb hby at_153) hr
  · show Q0 Z p0_0 p0_1 h0 n0 _ T10.heap _
    rw [eh10]
    exact ⟨rfl, N10⟩
set_option maxRecDepth 65536 in
set_option maxHeartbeats 40000000 in
theorem comes_1 {Post : Tables → Env → Array Value → State → Outcome → State → Prop} (hpost : ∀ tb e args s v u, (limb_1_1.after args s (.returned v) u = true ∧ limb_1_2.after args s (.returned v) u = true ∧ True) → FrameEnd s (.returned v) u (Jvm.fieldLocs frame_1_writes args s ++ Jvm.arrayLocs frame_1_arrays args s ++ Jvm.staticLocs frame_1_statics s) 0 0 → Post tb e args s (.returned v) u) :
    ArmFor flags0 classFile x code maxLocals ret World_1 tables_1 room_1 Calls_1 rest_1 Pre_1 Post := by
  intro l hfl _ _ p e ha hc hk s m args below hf hA hF happ hP
  obtain ⟨hcalls, hrest, hpre⟩ := hP
  obtain ⟨-, -, -, hnamed, -, -, -, hat⟩ := (Spec.applies_iff hf).mp happ
  obtain ⟨hg, hn⟩ := and_e (Cond.before_iff.mp (show (Jvm.Cond.and given_1 narrow_1).before args s = true from hpre))
  obtain ⟨gv1, gv2⟩ := and_e hg
  obtain ⟨gv3, gv4⟩ := and_e gv2
  obtain ⟨w0, w1, rfl⟩ : ∃ w0 w1 : Value, args = #[w0, w1] := by
    have hs : args.size = 2 := by simpa [Cond.value, given_1] using gv1
    obtain ⟨L⟩ := args
    match L, hs with
    | [w0, w1], _ => exact ⟨w0, w1, rfl⟩
  have hw := fun d (hd : d ∈ tables_1) => atoms_spec (ws := Jvm.Cond.code x code maxLocals ret :: tables_1) hat d (List.mem_cons_of_mem _ hd)
  have hfit : Fit s := fun {y c} hc i hi => by
    obtain ⟨ha, rfl⟩ := Array.getElem?_eq_some_iff.mp hc
    have q := List.all_eq_true.mp ((Array.all_eq_true_iff_forall_mem.mp hF) _ (Array.getElem_mem ha)) i (List.mem_range.mpr hi)
    simpa [Array.getElem?_eq_getElem hi] using q
  obtain ⟨i0, ei0⟩ := is_v gv3
  obtain rfl : w0 = (.int i0) := Option.some.inj ei0
  obtain ⟨i1, ei1⟩ := is_v gv4
  obtain rfl : w1 = (.int i1) := Option.some.inj ei1
  obtain ⟨n, o, h1, h2, h3, _, L, rfl, ⟨rfl, N⟩, hq⟩ := rm0 l s _ hw tables_1 i0 i1 s.heap s.heap.size (Nat.le_refl _)  p e ha hc hk s m _ below hf ((Spec.applies_iff_loose hf).mp happ).1 ⟨rfl, State.Warmed39.refl s, rfl⟩ trivial
  refine ⟨n, _, h1, h2, h3, hpost _ _ _ _ _ _ ⟨Cond.after_iff.mpr rfl, Cond.after_iff.mpr (eq_i res_at (Term.int_eval (1)) rfl), trivial⟩ ⟨hq.1, hq.2.1, (hq.2.2.sift fun y hy => Or.inr (N y hy)).mono (by decide) (by decide)⟩⟩
theorem main_1_1 : Claimed_1_1 := comes_1 fun _ _ _ _ _ _ h hF => ⟨h.1, hF⟩
theorem main_1_2 : Claimed_1_2 := comes_1 fun _ _ _ _ _ _ h hF => ⟨h.2.1, hF⟩
end Jvm.Pilot.@@N@@
namespace Jvm.Pilot.@@N@@
open Jvm Jvm.ClassFile Sem Op Lib Jvm.Free Jvm.Stand Jvm.Pilot.@@N@@.Jvm.D
/-! MADE BY PROGRAM (witnessworld.py) out of the Statement's table words and the real class files: 14 classes; the members and pool entries that the words name. The judged class is class 1, her method 2. -/
namespace start1
open Jvm.ClassFile
def u (s : String) : CpInfo := .utf8 (stringToUtf16 s)
/-- a pool by its gaps: so many unusable entries, then the entry; so many at the end -/
def gap : Nat → List CpInfo → List CpInfo
  | 0, r => r
  | n + 1, r => .unusable :: gap n r
def poolList (es : List (Nat × CpInfo)) (last : Nat) : List CpInfo := es.foldr (fun e r => gap e.1 (e.2 :: r)) (gap last [])
def pool (es : List (Nat × CpInfo)) (last : Nat) : Array CpInfo := ⟨poolList es last⟩
def fileOf (pool : Array CpInfo) (this : Nat) (attrs : Array Attribute := #[]) (ms : Array MethodInfo := #[]) (fl : Nat := 33) (sup : Nat := 0) (ifs : Array Nat := #[]) (fds : Array FieldInfo := #[]) : ClassFile where
  minorVersion := 0
  majorVersion := 65
  constantPool := pool
  accessFlags := fl
  thisClass := this
  superClass := sup
  interfaces := ifs
  fields := fds
  methods := ms
  attributes := attrs
def plain (name : String) (sup : Option ClassId) : Class where
  name := name
  kind := .ordinary
  loader := none
  accessFlags := 33
  super := sup
  interfaces := #[]
  cf := none
  fields := #[]
  methods := #[]
  instanceTypes := #[]
  staticTypes := #[]
  resolved := #[]
  callSites := []
  init := .initialized
  statics := none
  mirror := none

def pool0 : Array CpInfo := pool [(5, u "<init>"), (0, u "()V"), (1, .class_ 10), (1, u "java/lang/Object")] 113

def k0m0 : Method := { name := "<init>", desc := "()V", sig := { parameters := [], returnType := none }, accessFlags := 1, code := none }
/-- java/lang/Object -/
def k0 : Class := { plain "java/lang/Object" none with
  accessFlags := 33
  interfaces := #[]
  cf := some (fileOf pool0 8 #[] #[{ accessFlags := 1, nameIndex := 5, descriptorIndex := 6, attributes := #[] }] 33 0 #[] #[])
  fields := #[]
  methods := #[k0m0]
  instanceTypes := #[]
  staticTypes := #[]
  resolved := Array.replicate 124 none
  statics := none }

def pool1 : Array CpInfo := pool [(2, .class_ 4), (1, u "java/lang/Object"), (0, u "<init>"), (0, u "()V"), (0, .methodref 8 9), (0, .class_ 10), (0, .nameAndType 11 12), (0, u "com/example/fat_envelope/fatenvelope/QuotedPrintableOutputStream"), (0, u "alwaysEscapes"), (0, u "(I)Z"), (0, .methodref 14 15), (0, .class_ 16), (0, .nameAndType 17 12), (0, u "com/example/fat_envelope/fatenvelope/QuotedPrintableOutputStreamAlwaysEscapesPinLaw"), (0, u "expected"), (3, u "law"), (0, u "(II)Z")] 2

def k1m0 : Method := { name := "<init>", desc := "()V", sig := { parameters := [], returnType := none }, accessFlags := 1, code := none }
def k1c1 : Code := { maxStack := 2, maxLocals := 3, code := method_2_code, exceptionTable := #[], attributes := #[] }
def k1m1 : Method := { name := "expected", desc := "(I)Z", sig := { parameters := [.int], returnType := some .boolean }, accessFlags := 10, code := some k1c1 }
def k1c2 : Code := { maxStack := 2, maxLocals := 4, code := code, exceptionTable := #[], attributes := #[] }
def k1m2 : Method := { name := "law", desc := "(II)Z", sig := { parameters := [.int, .int], returnType := some .boolean }, accessFlags := 9, code := some k1c2 }
/-- com/example/fat_envelope/fatenvelope/QuotedPrintableOutputStreamAlwaysEscapesPinLaw -/
def k1 : Class := { plain "com/example/fat_envelope/fatenvelope/QuotedPrintableOutputStreamAlwaysEscapesPinLaw" (some 0) with
  accessFlags := 49
  interfaces := #[]
  cf := some (fileOf pool1 14 #[] #[{ accessFlags := 1, nameIndex := 5, descriptorIndex := 6, attributes := #[] }, { accessFlags := 10, nameIndex := 17, descriptorIndex := 12, attributes := #[] }, { accessFlags := 9, nameIndex := 21, descriptorIndex := 22, attributes := #[] }] 49 2 #[] #[])
  fields := #[]
  methods := #[k1m0, k1m1, k1m2]
  instanceTypes := #[]
  staticTypes := #[]
  resolved := Array.replicate 25 none
  statics := none }

def pool2 : Array CpInfo := pool [(1, .class_ 2), (0, u "java/lang/AutoCloseable"), (0, .class_ 4), (0, u "java/lang/Object")] 7

/-- java/lang/AutoCloseable -/
def k2 : Class := { plain "java/lang/AutoCloseable" (some 0) with
  accessFlags := 1537
  interfaces := #[]
  cf := some (fileOf pool2 1 #[] #[] 1537 3 #[] #[])
  fields := #[]
  methods := #[]
  instanceTypes := #[]
  staticTypes := #[]
  resolved := Array.replicate 12 none
  statics := none }

def pool3 : Array CpInfo := pool [(1, .class_ 2), (0, u "java/io/Closeable"), (0, .class_ 4), (0, u "java/lang/Object"), (0, .class_ 6), (0, u "java/lang/AutoCloseable")] 7

/-- java/io/Closeable -/
def k3 : Class := { plain "java/io/Closeable" (some 0) with
  accessFlags := 1537
  interfaces := #[2]
  cf := some (fileOf pool3 1 #[] #[] 1537 3 #[5] #[])
  fields := #[]
  methods := #[]
  instanceTypes := #[]
  staticTypes := #[]
  resolved := Array.replicate 14 none
  statics := none }

def pool4 : Array CpInfo := pool [(1, .class_ 2), (0, u "java/io/Flushable"), (0, .class_ 4), (0, u "java/lang/Object")] 7

/-- java/io/Flushable -/
def k4 : Class := { plain "java/io/Flushable" (some 0) with
  accessFlags := 1537
  interfaces := #[]
  cf := some (fileOf pool4 1 #[] #[] 1537 3 #[] #[])
  fields := #[]
  methods := #[]
  instanceTypes := #[]
  staticTypes := #[]
  resolved := Array.replicate 12 none
  statics := none }

def pool5 : Array CpInfo := pool [(2, .class_ 4), (1, u "java/lang/Object"), (0, u "<init>"), (0, u "()V"), (0, .class_ 8), (0, u "java/io/OutputStream$1"), (2, .class_ 13), (1, u "java/io/OutputStream"), (11, .class_ 26), (0, u "java/io/Closeable"), (0, .class_ 28), (0, u "java/io/Flushable")] 24

def k5m0 : Method := { name := "<init>", desc := "()V", sig := { parameters := [], returnType := none }, accessFlags := 1, code := none }
/-- java/io/OutputStream -/
def k5 : Class := { plain "java/io/OutputStream" (some 0) with
  accessFlags := 1057
  interfaces := #[3, 4]
  cf := some (fileOf pool5 11 #[.nestMembers #[7]] #[{ accessFlags := 1, nameIndex := 5, descriptorIndex := 6, attributes := #[] }] 1057 2 #[25, 27] #[])
  fields := #[]
  methods := #[k5m0]
  instanceTypes := #[]
  staticTypes := #[]
  resolved := Array.replicate 53 none
  statics := none }

def pool6 : Array CpInfo := pool [(2, .class_ 4), (1, u "java/io/OutputStream"), (3, u "out"), (7, .class_ 18), (1, u "com/example/fat_envelope/fatenvelope/EncodingOutputStream"), (0, u "Ljava/io/OutputStream;"), (26, u "encoded"), (0, u "[B"), (2, u "encodedLength"), (0, u "I"), (12, u "closed"), (0, u "Z")] 16

/-- com/example/fat_envelope/fatenvelope/EncodingOutputStream -/
def k6 : Class := { plain "com/example/fat_envelope/fatenvelope/EncodingOutputStream" (some 5) with
  accessFlags := 1056
  interfaces := #[]
  cf := some (fileOf pool6 16 #[] #[] 1056 2 #[] #[{ accessFlags := 18, nameIndex := 8, descriptorIndex := 19, attributes := #[] }, { accessFlags := 2, nameIndex := 46, descriptorIndex := 47, attributes := #[] }, { accessFlags := 2, nameIndex := 50, descriptorIndex := 51, attributes := #[] }, { accessFlags := 2, nameIndex := 64, descriptorIndex := 65, attributes := #[] }])
  fields := #[{ name := "out", type := (.object "java/io/OutputStream"), accessFlags := 18, slot := 0, constantValue := 0 }, { name := "encoded", type := (.array .byte), accessFlags := 2, slot := 1, constantValue := 0 }, { name := "encodedLength", type := .int, accessFlags := 2, slot := 2, constantValue := 0 }, { name := "closed", type := .boolean, accessFlags := 2, slot := 3, constantValue := 0 }]
  methods := #[]
  instanceTypes := #[(.object "java/io/OutputStream"), (.array .byte), .int, .boolean]
  staticTypes := #[]
  resolved := Array.replicate 82 none
  statics := none }

def pool7 : Array CpInfo := pool [(2, .class_ 4), (1, u "com/example/fat_envelope/fatenvelope/EncodingOutputStream"), (2, .class_ 8), (0, u "com/example/fat_envelope/fatenvelope/QuotedPrintableOutputStream"), (2, u "held"), (0, u "I"), (2, u "encoded"), (0, u "[B"), (2, u "written"), (6, u "crHeld"), (0, u "Z"), (9, u "column"), (12, u "alwaysEscapes"), (0, u "(I)Z"), (8, u "LINE_LENGTH"), (2, u "HEX_DIGITS"), (0, u "Ljava/lang/String;"), (0, u "NONE")] 11

def k7c0 : Code := { maxStack := 2, maxLocals := 1, code := prog_83_method_2_code, exceptionTable := #[], attributes := #[] }
def k7m0 : Method := { name := "alwaysEscapes", desc := "(I)Z", sig := { parameters := [.int], returnType := some .boolean }, accessFlags := 8, code := some k7c0 }
/-- com/example/fat_envelope/fatenvelope/QuotedPrintableOutputStream -/
def k7 : Class := { plain "com/example/fat_envelope/fatenvelope/QuotedPrintableOutputStream" (some 6) with
  accessFlags := 48
  interfaces := #[]
  cf := some (fileOf pool7 7 #[] #[{ accessFlags := 8, nameIndex := 50, descriptorIndex := 51, attributes := #[] }] 48 2 #[] #[{ accessFlags := 26, nameIndex := 60, descriptorIndex := 12, attributes := #[] }, { accessFlags := 26, nameIndex := 63, descriptorIndex := 64, attributes := #[] }, { accessFlags := 26, nameIndex := 65, descriptorIndex := 12, attributes := #[] }, { accessFlags := 2, nameIndex := 11, descriptorIndex := 12, attributes := #[] }, { accessFlags := 2, nameIndex := 26, descriptorIndex := 27, attributes := #[] }, { accessFlags := 2, nameIndex := 37, descriptorIndex := 12, attributes := #[] }, { accessFlags := 2, nameIndex := 15, descriptorIndex := 16, attributes := #[] }, { accessFlags := 2, nameIndex := 19, descriptorIndex := 12, attributes := #[] }])
  fields := #[{ name := "LINE_LENGTH", type := .int, accessFlags := 26, slot := 0, constantValue := 0 }, { name := "HEX_DIGITS", type := (.object "java/lang/String"), accessFlags := 26, slot := 1, constantValue := 0 }, { name := "NONE", type := .int, accessFlags := 26, slot := 2, constantValue := 0 }, { name := "held", type := .int, accessFlags := 2, slot := 4, constantValue := 0 }, { name := "crHeld", type := .boolean, accessFlags := 2, slot := 5, constantValue := 0 }, { name := "column", type := .int, accessFlags := 2, slot := 6, constantValue := 0 }, { name := "encoded", type := (.array .byte), accessFlags := 2, slot := 7, constantValue := 0 }, { name := "written", type := .int, accessFlags := 2, slot := 8, constantValue := 0 }]
  methods := #[k7m0]
  instanceTypes := #[(.object "java/io/OutputStream"), (.array .byte), .int, .boolean, .int, .boolean, .int, (.array .byte), .int]
  staticTypes := #[.int, (.object "java/lang/String"), .int]
  resolved := Array.replicate 77 none
  statics := none }

def pool8 : Array CpInfo := pool [(1, u "java/lang/Cloneable"), (0, .class_ 1), (0, u "java/lang/Object"), (0, .class_ 3)] 3

/-- java/lang/Cloneable -/
def k8 : Class := { plain "java/lang/Cloneable" (some 0) with
  accessFlags := 1537
  interfaces := #[]
  cf := some (fileOf pool8 2 #[] #[] 1537 4 #[] #[])
  fields := #[]
  methods := #[]
  instanceTypes := #[]
  staticTypes := #[]
  resolved := Array.replicate 8 none
  statics := none }

def pool9 : Array CpInfo := pool [(1, u "java/io/Serializable"), (0, .class_ 1), (0, u "java/lang/Object"), (0, .class_ 3)] 3

/-- java/io/Serializable -/
def k9 : Class := { plain "java/io/Serializable" (some 0) with
  accessFlags := 1537
  interfaces := #[]
  cf := some (fileOf pool9 2 #[] #[] 1537 4 #[] #[])
  fields := #[]
  methods := #[]
  instanceTypes := #[]
  staticTypes := #[]
  resolved := Array.replicate 8 none
  statics := none }

/-- the primitive byte -/
def k10 : Class := { plain "byte" none with kind := .primitive 'B', accessFlags := 0x411 }
/-- [B -/
def k11 : Class := { plain "[B" (some 0) with kind := .array 10 .byte, interfaces := #[8, 9], accessFlags := 1041 }

/-- the primitive int -/
def k12 : Class := { plain "int" none with kind := .primitive 'I', accessFlags := 0x411 }
/-- [I -/
def k13 : Class := { plain "[I" (some 0) with kind := .array 12 .int, interfaces := #[8, 9], accessFlags := 1041 }

def heap : Heap := #[]
def classes : Array Class := #[k0, k1, k2, k3, k4, k5, k6, k7, k8, k9, k10, k11, k12, k13]
def interned : List (Array UInt16 × Addr) := []
def slotsUsed : Nat := 0
def theMethod : MethodId := ⟨1, 2⟩
def args0 : Array Value := #[.int 5, .int 300]
def aboutOver (below : List Frame) : State where
  vm := { classes := classes, interned := interned.toArray }
  heap := heap
  slotsUsed := slotsUsed
  threads := #[{ frames := .invoking theMethod args0 :: below }]
def below0 : List Frame := [.native { method := ⟨0, 0⟩, args := #[] }]
def about1 : State := aboutOver below0
def p0 : Program := .bare "" "" ""
def e0 : Env := launch0.env 0 0 0
theorem w_frames : about1.frames = Frame.invoking theMethod args0 :: below0 := rfl
set_option maxRecDepth 65536 in
theorem w_args : argsFit about1.vm theMethod args0 = true := by decide +kernel
set_option maxRecDepth 65536 in
theorem w_heap : heapFits about1 = true := by decide +kernel
set_option maxRecDepth 65536 in
theorem w_runnable : about1.curStatus? = some .runnable := by decide +kernel
set_option maxRecDepth 65536 in
theorem w_alone : about1.alone = true := by decide +kernel
set_option maxRecDepth 65536 in
theorem w_named : about1.methodNamed? x = some theMethod := by decide +kernel
set_option maxRecDepth 65536 in
theorem w_hears : about1.hears theMethod below0 = true := by decide +kernel
set_option maxRecDepth 65536 in
theorem w_ripe : about1.ripe theMethod args0 below0 = true := by decide +kernel
theorem w_running : about1.status = .running := rfl
set_option maxRecDepth 65536 in
theorem w_room : about1.hasRoom e0.platform room_1 = true :=
  launch0.hasRoom_least _ room_1 (by decide +kernel) (by decide +kernel) (by decide +kernel) (by decide +kernel) (by decide +kernel) (by decide +kernel)
theorem allAtoms_all (ts : List Jvm.Cond) (a : Array Jvm.Value) (st : Jvm.State) : (allAtoms ts).before a st = ts.all (fun c => c.before a st) := by
  induction ts with
  | nil => rfl
  | cons c t ih =>
    show (Jvm.Cond.and c (allAtoms t)).before a st = _
    rw [Jvm.Cond.before_and, ih, List.all_cons]
def words1 : List Jvm.Cond := Jvm.Cond.code x code maxLocals ret :: tables_1
/-- a 'code' word, met by the world's own term for the bytes: nothing is compared byte by byte -/
theorem code_word {y : MethodName} {bytes : ByteArray} {mx : Nat} {rt : Option FieldType} {a : Array Value} {s : State} {m : MethodId} {meth : Method} {c : Code} (h1 : s.methodNamed? y = some m) (h2 : s.vm.method? m = some meth) (h3 : meth.code = some c) (h4 : c.code = bytes)
    (h5 : (c.maxLocals == mx && c.exceptionTable.isEmpty && decide (c.maxStack ≤ mostOperands) && decide (meth.sig.returnType = rt) && !meth.locks && decide (parseMethodDescriptor y.desc = some meth.sig)) = true) : (Jvm.Cond.code y bytes mx rt).before a s = true := by
  simp only [Bool.and_eq_true, beq_iff_eq, Bool.not_eq_true', decide_eq_true_eq] at h5
  obtain ⟨⟨⟨⟨⟨g1, g2⟩, g3⟩, g4⟩, g5⟩, g6⟩ := h5
  simp [Cond.before, Cond.holds, Cond.value, h1, h2, h3, h4, g1, g2, g3, g4, g5, g6]
def isCode : Jvm.Cond → Bool
  | .code _ _ _ _ => true
  | _ => false
theorem all_split {L : List Jvm.Cond} {P : Jvm.Cond → Bool} (h1 : L.all (fun c => isCode c || P c) = true) (h2 : ∀ c ∈ L.filter isCode, P c = true) : L.all P = true := by
  refine List.all_eq_true.mpr fun c hc => ?_
  have h := List.all_eq_true.mp h1 c hc
  rcases Bool.eq_false_or_eq_true (isCode c) with hi | hi
  · exact h2 c (List.mem_filter.mpr ⟨hc, hi⟩)
  · simpa [hi] using h
set_option maxRecDepth 65536 in
theorem w_c0 : (Jvm.Cond.code x code maxLocals ret).before args0 about1 = true := code_word (m := ⟨1, 2⟩) (meth := k1m2) (c := k1c2) (by decide +kernel) rfl rfl rfl (by decide +kernel)
set_option maxRecDepth 65536 in
theorem w_c1 : (Jvm.Cond.code ({ cls := "com/example/fat_envelope/fatenvelope/QuotedPrintableOutputStream", name := "alwaysEscapes", desc := "(I)Z" } : Jvm.MethodName) prog_83_method_2_code (1 : Nat) (Option.some Jvm.ClassFile.FieldType.boolean)).before args0 about1 = true := code_word (m := ⟨7, 0⟩) (meth := k7m0) (c := k7c0) (by decide +kernel) rfl rfl rfl (by decide +kernel)
set_option maxRecDepth 65536 in
theorem w_c2 : (Jvm.Cond.code ({ cls := "com/example/fat_envelope/fatenvelope/QuotedPrintableOutputStreamAlwaysEscapesPinLaw", name := "expected", desc := "(I)Z" } : Jvm.MethodName) method_2_code (3 : Nat) (Option.some Jvm.ClassFile.FieldType.boolean)).before args0 about1 = true := code_word (m := ⟨1, 1⟩) (meth := k1m1) (c := k1c1) (by decide +kernel) rfl rfl rfl (by decide +kernel)
def codes1 : List Jvm.Cond := [Jvm.Cond.code x code maxLocals ret, Jvm.Cond.code ({ cls := "com/example/fat_envelope/fatenvelope/QuotedPrintableOutputStream", name := "alwaysEscapes", desc := "(I)Z" } : Jvm.MethodName) prog_83_method_2_code (1 : Nat) (Option.some Jvm.ClassFile.FieldType.boolean), Jvm.Cond.code ({ cls := "com/example/fat_envelope/fatenvelope/QuotedPrintableOutputStreamAlwaysEscapesPinLaw", name := "expected", desc := "(I)Z" } : Jvm.MethodName) method_2_code (3 : Nat) (Option.some Jvm.ClassFile.FieldType.boolean)]
set_option maxRecDepth 65536 in
theorem codes_eq : words1.filter isCode = codes1 := rfl
theorem w_codes : ∀ c ∈ words1.filter isCode, c.before args0 about1 = true := by
  rw [codes_eq]
  intro c hc
  simp only [codes1, List.mem_cons, List.not_mem_nil, or_false] at hc
  rcases hc with rfl | rfl | rfl
  · exact w_c0
  · exact w_c1
  · exact w_c2
set_option maxRecDepth 65536 in
theorem w_t1 : words1.all (fun c => isCode c || c.before args0 about1) = true := by decide +kernel
theorem w_tables : (allAtoms (Jvm.Cond.code x code maxLocals ret :: tables_1)).before args0 about1 = true := by
  rw [allAtoms_all]
  show words1.all (fun c => c.before args0 about1) = true
  refine all_split ?_ w_codes
  rw [w_t1]
set_option maxRecDepth 65536 in
theorem w_case : (Jvm.Cond.and given_1 narrow_1).before args0 about1 = true := by decide +kernel
theorem w_applies : (headSpec (Jvm.Cond.code x code maxLocals ret :: tables_1) room_1).applies x e0.platform about1 = true :=
  (Spec.applies_iff w_frames).mpr ⟨w_running, w_runnable, w_alone, w_named, w_hears, w_ripe, w_room, w_tables⟩
theorem atStart : AtStart classFile x code maxLocals ret World_1 tables_1 room_1 Calls_1 rest_1 Pre_1 launch0 p0 e0 about1 theMethod args0 below0 :=
  ⟨lists_1, trivial, launch0.admits_env _ _ _, launch0.least_env, fairChoices_fair.cas, fairChoices_fair.clock, w_frames, w_args, w_heap, w_applies, trivial, trivial, w_case⟩
end start1
theorem witness_1 : WitnessClaimed_1 := ⟨start1.p0, start1.e0, start1.about1, start1.theMethod, start1.args0, start1.below0, start1.atStart⟩
end Jvm.Pilot.@@N@@
