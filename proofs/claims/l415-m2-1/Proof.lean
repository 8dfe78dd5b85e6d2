import JvmDerived
import JvmDerived.Pilot.@@N@@Statement
import JvmDerived.Pilot.@@N@@Code
set_option linter.unusedVariables false
set_option linter.unusedSimpArgs false
namespace Jvm.RoadKit
open Sem ClassFile Op Lib Jvm.Stand Jvm.Free Jvm.LawKit
section New
variable {p : Program} {l : Launch} {e : Env} {R : Room} {s : State} {m : MethodId} {args : Array Value} {below : List Frame} {meth : Method} {c : Code} {T : State} {locs : List Loc} {cells slots : Nat}
theorem retI (X : Stand p l e R s m args below meth c T locs cells slots) (hx : p.tables.exec = Jvm.exec) {pc : Nat} {Ls : Array Slot} {z : Int32} {rest : List Value} (hret : meth.sig.returnType = some .int) (hd : decode c.code pc = .ok (.ireturn, 1)) {fs : List Frame}
    (hl : ∀ (f : JFrame) (acts : List Action), f.method = m → f.locked = none → f.entered = [] → (doReturn e (T.setTop f) acts (some (.int z))).1 = T.setFrames fs) : Steps p.tables e below (T.setTop (mkF m pc Ls (.int z :: rest))) (T.setFrames fs) :=
  retOut X hx hret rfl (Or.inl ⟨rfl, Or.inl rfl, z, rfl⟩) hd hl
end New
end Jvm.RoadKit
namespace Jvm.Pilot.@@N@@
open Jvm Jvm.ClassFile Sem Op Lib Jvm.Free Jvm.Stand Jvm.LawKit Jvm.RoadKit Bundle Jvm.Pilot.@@N@@.Jvm.D
theorem own_selpriv {s : State} {args : Array Value} {y : MethodName} {n : Nat} (hins : (Jvm.Cond.instantiable y.cls n).before args s = true) (hpriv : (Jvm.Cond.privateMethod y).before args s = true) (hinst : (Jvm.Cond.instanceMethod y).before args s = true) (hy : y.cls ≠ "java/lang/invoke/MethodHandle" ∧ y.cls ≠ "java/lang/invoke/VarHandle") :
    (Jvm.Cond.selects y.cls y y).before args s = true := by
  obtain ⟨c, k, hc, hk, -, hniab, -, -⟩ := Cond.instantiable_spec hins
  have hni : k.isInterface = false := (Bool.or_eq_false_iff.mp hniab).1
  obtain ⟨mk, methM, hnamed, hmethM, -, -⟩ := Cond.instanceMethod_spec hinst
  have hfound : s.methodFound? y.cls y.name y.desc = some mk := State.methodFound?_of_named hnamed hy
  have hcls : mk.cls = c := Option.some.inj ((findClass_of_methodNamed hnamed).symm.trans hc)
  have hsel : selectMethod {} s.vm c mk = .method mk := selectMethod_private hmethM (Cond.privateMethod_at hpriv mk methM hnamed hmethM)
  simp only [Cond.before, Cond.holds, Cond.value, hc, hfound, hnamed, hsel, hcls, hk]
  simp; exact hni
theorem own_nsE {Z : State} {h : Heap} {a : Addr} {C : String} (F : Exa Z h a C) : ∀ c : Cell, h[a]? = some c → c.vm.isStatics = false := by
  obtain ⟨c, k, h1, -, -, h4, -⟩ := F
  intro c' hc; cases h1.symm.trans hc; exact h4
theorem own_nsV {Z : State} {h : Heap} {a : Addr} {k : ClassId} {ty : FieldType} {z : Int32} {vs : List Value} {dv : Value} (F : Arv Z h a k ty z vs dv) : ∀ c : Cell, h[a]? = some c → c.vm.isStatics = false := by
  obtain ⟨c, A, -⟩ := F
  intro c' hc; cases A.1.symm.trans hc; exact A.plain
theorem own_stakeep {Z : State} {h h' : Heap} {C n d : String} {v : Value} {ws : List Addr} (F : Sta Z h C n d v) (K : Keep h h' ws) (q : ∀ x ∈ ws, ∀ c : Cell, h[x]? = some c → c.vm.isStatics = false) : Sta Z h' C n d v := by
  obtain ⟨cf, i, k, f, st, cell, h1, h2, h3, h4, h5, h6, h7⟩ := F
  refine ⟨cf, i, k, f, st, cell, h1, h2, h3, h4, K.2.1 _ _ h5 (fun hm => ?_), h6, h7⟩
  rw [q st hm cell h5] at h6; cases h6
theorem own_ex {args : Array Value} {s : State} {t : Term} {C : String} (h : (Jvm.Cond.exactly t C).value args s none s [] = some true) : ∃ a, t.eval args s none [] s = some (.ref a) ∧ Exa s s.heap a C := by
  obtain ⟨a, e1⟩ := exa_v h; exact ⟨a, e1, Exa.start e1 h⟩
theorem own_evI {args : Array Value} {s : State} {t : Term} {z : Int32} (h : (Jvm.Cond.eq t (.int z)).value args s none s [] = some true) : t.eval args s none [] s = some (.int z) := by
  cases hv : t.eval args s none [] s with
  | none => simp [Cond.value, hv] at h
  | some x => cases x <;> simp [Cond.value, Term.eval, hv] at h ⊢; exact h
theorem own_evJ {args : Array Value} {s : State} {t : Term} {z : Int64} (h : (Jvm.Cond.eq t (.long z)).value args s none s [] = some true) : t.eval args s none [] s = some (.long z) := by
  cases hv : t.eval args s none [] s with
  | none => simp [Cond.value, hv] at h
  | some x => cases x <;> simp [Cond.value, Term.eval, hv] at h ⊢; exact h
theorem own_fldV {args : Array Value} {s : State} {t : Term} {a : Addr} {C n d : String} {v : Value} (ev : t.eval args s none [] s = some (.ref a)) (h : (Term.field t C n d).eval args s none [] s = some v) : Fld s s.heap a C n d v := by
  refine Fld.start ?_
  rw [← fld_at (args := args) (first := s) (o := none) (idx := []) ev]; exact h
theorem own_lt (a b : Int32) : a < b ↔ a.toInt < b.toInt := Int32.lt_iff_toInt_lt
theorem own_le (a b : Int32) : a ≤ b ↔ a.toInt ≤ b.toInt := Int32.le_iff_toInt_le
theorem own_eqi (a b : Int32) : a = b ↔ a.toInt = b.toInt := Int32.toInt_inj.symm
theorem own_ltL (a b : Int64) : a < b ↔ a.toInt < b.toInt := Int64.lt_iff_toInt_lt
theorem own_eqL (a b : Int64) : a = b ↔ a.toInt = b.toInt := Int64.toInt_inj.symm
theorem own_evR {args : Array Value} {s : State} {t u : Term} {a : Addr} (h : (Jvm.Cond.eq t u).value args s none s [] = some true) (hu : u.eval args s none [] s = some (.ref a)) : t.eval args s none [] s = some (.ref a) := by
  cases hv : t.eval args s none [] s with
  | none => simp [Cond.value, hv] at h
  | some x => cases x <;> simp [Cond.value, hu, hv] at h ⊢; exact h
theorem own_len {args : Array Value} {s : State} {t : Term} {a : Addr} {cl : Cell} {z : Int32} (ev : t.eval args s none [] s = some (.ref a)) (hc : s.arrayAt? a = some cl) (h : (Term.length t).eval args s none [] s = some (.int z)) : cl.slots.size < 2 ^ 31 ∧ cl.slots.size.toInt32 = z := by
  by_cases q : cl.slots.size < 2147483648
  · simp [Term.eval, ev, hc, q] at h; exact ⟨q, h⟩
  · simp [Term.eval, ev, hc, q] at h
theorem pn_0 : plainName "com/example/batchrake/batchrake/Outcome" = true := by first | (simp [plainName, overriddenIn]; done) | decide +kernel
theorem d1_0 : decode prog_5_method_4_code 0 = .ok (.aload_n 0, 1) := by decide +kernel
theorem d1_1 : decode prog_5_method_4_code 1 = .ok (.getfield 38, 3) := by decide +kernel
theorem d1_4 : decode prog_5_method_4_code 4 = .ok (.ifnull 7, 3) := by decide +kernel
theorem d1_11 : decode prog_5_method_4_code 11 = .ok (.iconst 0, 1) := by decide +kernel
theorem d1_12 : decode prog_5_method_4_code 12 = .ok (.ireturn, 1) := by decide +kernel
theorem ef_1 (m : MethodId) (a1_0 : Addr) : entryFrame m #[(.ref a1_0)] 1 = mkF m 0 #[.val (.ref a1_0)] [] := by first | (simp [entryFrame, mkF, argsToLocals, Value.category]; done) | rfl
def Q1 (Z : State) (a1_0 : Addr) (h0 : Heap) (n0 : Nat) (v : Option Value) (h : Heap) (L : List Loc) : Prop := v = some (.int (0 : Int32)) ∧ Fr n0 L ∧ h = h0
set_option maxRecDepth 65536 in
set_option maxHeartbeats 40000000 in
theorem rm1 (l : Launch) (Z : State) (a0 : Array Value) (hw : ∀ d ∈ tables_1, d.before a0 Z = true) (ws : List Jvm.Cond) (a1_0 : Addr) (h0 : Heap) (n0 : Nat) (Z0 : n0 ≤ h0.size) (Fs : Fld Z h0 a1_0 "com/example/batchrake/batchrake/Outcome" "status" "Ljava/lang/String;" .null) :
    MetFree l (⟨"com/example/batchrake/batchrake/Outcome", "isFailure", "()Z"⟩ : MethodName) (head1 (Jvm.Cond.code (⟨"com/example/batchrake/batchrake/Outcome", "isFailure", "()Z"⟩ : MethodName) prog_5_method_4_code 1 (some .boolean) :: ws) ({ frames := 0, cells := 0, slots := 0, locals := 0 } : Room)) (fun a U => a = #[(.ref a1_0)] ∧ Z.Warmed39 U.vm ∧ U.heap = h0) (fun _ _ _ _ _ => True) (fun _ U o U' => ∃ v L, o = .returned v ∧ Q1 Z a1_0 h0 n0 v U'.heap L ∧ FrameEnd U o U' L ({ frames := 0, cells := 0, slots := 0, locals := 0 } : Room).cells ({ frames := 0, cells := 0, slots := 0, locals := 0 } : Room).slots) := by
  refine MetFree.of_bodySF (plainFor_of_name pn_0) hisR ?_
  intro p e s m args below meth c s₁ Bd hml0 hP hK
  obtain ⟨rfl, hZ, hh⟩ := hP
  have hx := Bd.exec
  have hby := Bd.bytes
  have hml : c.maxLocals = 1 := hml0
  have hown : s.vm.findClass "com/example/batchrake/batchrake/Outcome" = some m.cls := findClass_of_methodNamed Bd.named
  have hnm := (name_of_methodNamed Bd.named Bd.method).1
  have X0 : Stand p l e ({ frames := 0, cells := 0, slots := 0, locals := 0 } : Room) s m #[(.ref a1_0)] below meth c s₁ [] 0 0 := Stand.of_body Bd
  have e0 : s₁.heap = h0 := by rw [← hh, Bd.state]; rfl
  have N0 := Fr.nil n0
  have pre0 : ∀ t, Steps p.tables e below (s₁.setTop (mkF m 0 #[.val (.ref a1_0)] [])) t → Steps p.tables e below (s₁.setTop (entryFrame m #[(.ref a1_0)] 1)) t := fun t k => castTop (ef_1 m a1_0) k
  obtain ⟨T1, X1, e1, st1⟩ := getF X0 hx hZ hown (host := "") (Or.inl (hw _ (List.mem_of_getElem? (i := 9) rfl))) Via.refl e0 Fs (g := (mkF m 1 #[.val (.ref a1_0)] [(.ref a1_0)])) rfl rfl (hb hby d1_1)
  have k2 : ∀ t, Steps p.tables e below (T1.setTop (mkF m 12 #[.val (.ref a1_0)] [(.int (0 : Int32))])) t → Steps p.tables e below (s₁.setTop (entryFrame m #[(.ref a1_0)] 1)) t := by
    intro t k
    refine pre0 t ?_
    show Steps p.tables e below (s₁.setTop (mkF m 0 #[.val (.ref a1_0)] [])) _
    refine XS.aloadN X0.here hx rfl (hb hby d1_0) rfl rfl ?_
    show Steps p.tables e below (s₁.setTop (mkF m 1 #[.val (.ref a1_0)] [(.ref a1_0)])) _
    refine st1 _ ?_
    show Steps p.tables e below (T1.setTop (mkF m 4 #[.val (.ref a1_0)] [.null])) _
    refine XS.ifnullYes X1.here hx rfl (pc0 := 4) (pc' := 11) rfl (hb hby d1_4) rfl (by decide) (by decide) ?_
    show Steps p.tables e below (T1.setTop (mkF m 11 #[.val (.ref a1_0)] [])) _
    refine XS.iconst X1.here hx rfl (hb hby d1_11) ?_
    exact k
  obtain ⟨fs, hr, hrun, hended, hW, hsame⟩ := X1.leave (v := some (.int (0 : Int32))) (fun h => by rw [Bd.returns] at h; cases h)
  refine ⟨_, _, k2 _ ?_, hrun, hended, _, _, rfl, ?_, ⟨_, rfl⟩, hW, hsame.mono (by decide) (by decide)⟩
  · exact retN X1 hx (t := .boolean) Bd.returns (by simp) (hb hby d1_12) hr
  · show Q1 Z a1_0 h0 n0 _ T1.heap _
    rw [e1]
    exact ⟨rfl, N0, rfl⟩
theorem d2_0 : decode prog_5_method_4_code 0 = .ok (.aload_n 0, 1) := by decide +kernel
theorem d2_1 : decode prog_5_method_4_code 1 = .ok (.getfield 38, 3) := by decide +kernel
theorem d2_4 : decode prog_5_method_4_code 4 = .ok (.ifnull 7, 3) := by decide +kernel
theorem d2_7 : decode prog_5_method_4_code 7 = .ok (.iconst 1, 1) := by decide +kernel
theorem d2_8 : decode prog_5_method_4_code 8 = .ok (.goto 4, 3) := by decide +kernel
theorem d2_12 : decode prog_5_method_4_code 12 = .ok (.ireturn, 1) := by decide +kernel
theorem ef_2 (m : MethodId) (a2_0 : Addr) : entryFrame m #[(.ref a2_0)] 1 = mkF m 0 #[.val (.ref a2_0)] [] := by first | (simp [entryFrame, mkF, argsToLocals, Value.category]; done) | rfl
def Q2 (Z : State) (a2_0 : Addr) (s2 : Addr) (h0 : Heap) (n0 : Nat) (v : Option Value) (h : Heap) (L : List Loc) : Prop := v = some (.int (1 : Int32)) ∧ Fr n0 L ∧ h = h0
set_option maxRecDepth 65536 in
set_option maxHeartbeats 40000000 in
theorem rm2 (l : Launch) (Z : State) (a0 : Array Value) (hw : ∀ d ∈ tables_1, d.before a0 Z = true) (ws : List Jvm.Cond) (a2_0 : Addr) (s2 : Addr) (h0 : Heap) (n0 : Nat) (Z0 : n0 ≤ h0.size) (Fs : Fld Z h0 a2_0 "com/example/batchrake/batchrake/Outcome" "status" "Ljava/lang/String;" (.ref s2)) :
    MetFree l (⟨"com/example/batchrake/batchrake/Outcome", "isFailure", "()Z"⟩ : MethodName) (head1 (Jvm.Cond.code (⟨"com/example/batchrake/batchrake/Outcome", "isFailure", "()Z"⟩ : MethodName) prog_5_method_4_code 1 (some .boolean) :: ws) ({ frames := 0, cells := 0, slots := 0, locals := 0 } : Room)) (fun a U => a = #[(.ref a2_0)] ∧ Z.Warmed39 U.vm ∧ U.heap = h0) (fun _ _ _ _ _ => True) (fun _ U o U' => ∃ v L, o = .returned v ∧ Q2 Z a2_0 s2 h0 n0 v U'.heap L ∧ FrameEnd U o U' L ({ frames := 0, cells := 0, slots := 0, locals := 0 } : Room).cells ({ frames := 0, cells := 0, slots := 0, locals := 0 } : Room).slots) := by
  refine MetFree.of_bodySF (plainFor_of_name pn_0) hisR ?_
  intro p e s m args below meth c s₁ Bd hml0 hP hK
  obtain ⟨rfl, hZ, hh⟩ := hP
  have hx := Bd.exec
  have hby := Bd.bytes
  have hml : c.maxLocals = 1 := hml0
  have hown : s.vm.findClass "com/example/batchrake/batchrake/Outcome" = some m.cls := findClass_of_methodNamed Bd.named
  have hnm := (name_of_methodNamed Bd.named Bd.method).1
  have X0 : Stand p l e ({ frames := 0, cells := 0, slots := 0, locals := 0 } : Room) s m #[(.ref a2_0)] below meth c s₁ [] 0 0 := Stand.of_body Bd
  have e0 : s₁.heap = h0 := by rw [← hh, Bd.state]; rfl
  have N0 := Fr.nil n0
  have pre0 : ∀ t, Steps p.tables e below (s₁.setTop (mkF m 0 #[.val (.ref a2_0)] [])) t → Steps p.tables e below (s₁.setTop (entryFrame m #[(.ref a2_0)] 1)) t := fun t k => castTop (ef_2 m a2_0) k
  obtain ⟨T1, X1, e1, st1⟩ := getF X0 hx hZ hown (host := "") (Or.inl (hw _ (List.mem_of_getElem? (i := 9) rfl))) Via.refl e0 Fs (g := (mkF m 1 #[.val (.ref a2_0)] [(.ref a2_0)])) rfl rfl (hb hby d2_1)
  have k2 : ∀ t, Steps p.tables e below (T1.setTop (mkF m 12 #[.val (.ref a2_0)] [(.int (1 : Int32))])) t → Steps p.tables e below (s₁.setTop (entryFrame m #[(.ref a2_0)] 1)) t := by
    intro t k
    refine pre0 t ?_
    show Steps p.tables e below (s₁.setTop (mkF m 0 #[.val (.ref a2_0)] [])) _
    refine XS.aloadN X0.here hx rfl (hb hby d2_0) rfl rfl ?_
    show Steps p.tables e below (s₁.setTop (mkF m 1 #[.val (.ref a2_0)] [(.ref a2_0)])) _
    refine st1 _ ?_
    show Steps p.tables e below (T1.setTop (mkF m 4 #[.val (.ref a2_0)] [(.ref s2)])) _
    refine XS.ifnullNo X1.here hx rfl (hb hby d2_4) rfl ?_
    show Steps p.tables e below (T1.setTop (mkF m 7 #[.val (.ref a2_0)] [])) _
    refine XS.iconst X1.here hx rfl (hb hby d2_7) ?_
    show Steps p.tables e below (T1.setTop (mkF m 8 #[.val (.ref a2_0)] [(.int (1 : Int32))])) _
    refine XS.goto X1.here hx rfl (pc0 := 8) (pc' := 12) rfl (hb hby d2_8) (by decide) (by decide) ?_
    exact k
  obtain ⟨fs, hr, hrun, hended, hW, hsame⟩ := X1.leave (v := some (.int (1 : Int32))) (fun h => by rw [Bd.returns] at h; cases h)
  refine ⟨_, _, k2 _ ?_, hrun, hended, _, _, rfl, ?_, ⟨_, rfl⟩, hW, hsame.mono (by decide) (by decide)⟩
  · exact retN X1 hx (t := .boolean) Bd.returns (by simp) (hb hby d2_12) hr
  · show Q2 Z a2_0 s2 h0 n0 _ T1.heap _
    rw [e1]
    exact ⟨rfl, N0, rfl⟩
theorem d3_0 : decode prog_5_method_6_code 0 = .ok (.aload_n 0, 1) := by decide +kernel
theorem d3_1 : decode prog_5_method_6_code 1 = .ok (.getfield 38, 3) := by decide +kernel
theorem d3_4 : decode prog_5_method_6_code 4 = .ok (.areturn, 1) := by decide +kernel
theorem ef_3 (m : MethodId) (a3_0 : Addr) : entryFrame m #[(.ref a3_0)] 1 = mkF m 0 #[.val (.ref a3_0)] [] := by first | (simp [entryFrame, mkF, argsToLocals, Value.category]; done) | rfl
def Q3 (Z : State) (a3_0 : Addr) (h0 : Heap) (n0 : Nat) (v : Option Value) (h : Heap) (L : List Loc) : Prop := v = some .null ∧ Fr n0 L ∧ h = h0
set_option maxRecDepth 65536 in
set_option maxHeartbeats 40000000 in
theorem rm3 (l : Launch) (Z : State) (a0 : Array Value) (hw : ∀ d ∈ tables_1, d.before a0 Z = true) (ws : List Jvm.Cond) (a3_0 : Addr) (h0 : Heap) (n0 : Nat) (Z0 : n0 ≤ h0.size) (Fs : Fld Z h0 a3_0 "com/example/batchrake/batchrake/Outcome" "status" "Ljava/lang/String;" .null) :
    MetFree l (⟨"com/example/batchrake/batchrake/Outcome", "status", "()Ljava/lang/String;"⟩ : MethodName) (head1 (Jvm.Cond.code (⟨"com/example/batchrake/batchrake/Outcome", "status", "()Ljava/lang/String;"⟩ : MethodName) prog_5_method_6_code 1 (some (.object "java/lang/String")) :: ws) ({ frames := 0, cells := 0, slots := 0, locals := 0 } : Room)) (fun a U => a = #[(.ref a3_0)] ∧ Z.Warmed39 U.vm ∧ U.heap = h0) (fun _ _ _ _ _ => True) (fun _ U o U' => ∃ v L, o = .returned v ∧ Q3 Z a3_0 h0 n0 v U'.heap L ∧ FrameEnd U o U' L ({ frames := 0, cells := 0, slots := 0, locals := 0 } : Room).cells ({ frames := 0, cells := 0, slots := 0, locals := 0 } : Room).slots) := by
  refine MetFree.of_bodySF (plainFor_of_name pn_0) hisR ?_
  intro p e s m args below meth c s₁ Bd hml0 hP hK
  obtain ⟨rfl, hZ, hh⟩ := hP
  have hx := Bd.exec
  have hby := Bd.bytes
  have hml : c.maxLocals = 1 := hml0
  have hown : s.vm.findClass "com/example/batchrake/batchrake/Outcome" = some m.cls := findClass_of_methodNamed Bd.named
  have hnm := (name_of_methodNamed Bd.named Bd.method).1
  have X0 : Stand p l e ({ frames := 0, cells := 0, slots := 0, locals := 0 } : Room) s m #[(.ref a3_0)] below meth c s₁ [] 0 0 := Stand.of_body Bd
  have e0 : s₁.heap = h0 := by rw [← hh, Bd.state]; rfl
  have N0 := Fr.nil n0
  have pre0 : ∀ t, Steps p.tables e below (s₁.setTop (mkF m 0 #[.val (.ref a3_0)] [])) t → Steps p.tables e below (s₁.setTop (entryFrame m #[(.ref a3_0)] 1)) t := fun t k => castTop (ef_3 m a3_0) k
  obtain ⟨T1, X1, e1, st1⟩ := getF X0 hx hZ hown (host := "") (Or.inl (hw _ (List.mem_of_getElem? (i := 9) rfl))) Via.refl e0 Fs (g := (mkF m 1 #[.val (.ref a3_0)] [(.ref a3_0)])) rfl rfl (hb hby d3_1)
  have k2 : ∀ t, Steps p.tables e below (T1.setTop (mkF m 4 #[.val (.ref a3_0)] [.null])) t → Steps p.tables e below (s₁.setTop (entryFrame m #[(.ref a3_0)] 1)) t := by
    intro t k
    refine pre0 t ?_
    show Steps p.tables e below (s₁.setTop (mkF m 0 #[.val (.ref a3_0)] [])) _
    refine XS.aloadN X0.here hx rfl (hb hby d3_0) rfl rfl ?_
    show Steps p.tables e below (s₁.setTop (mkF m 1 #[.val (.ref a3_0)] [(.ref a3_0)])) _
    refine st1 _ ?_
    exact k
  obtain ⟨fs, hr, hrun, hended, hW, hsame⟩ := X1.leave (v := some .null) (fun h => by rw [Bd.returns] at h; cases h)
  refine ⟨_, _, k2 _ ?_, hrun, hended, _, _, rfl, ?_, ⟨_, rfl⟩, hW, hsame.mono (by decide) (by decide)⟩
  · exact retOut X1 hx Bd.returns rfl (Or.inr (Or.inr (Or.inr (Or.inr ⟨rfl, rfl, rfl⟩)))) (hb hby d3_4) hr
  · show Q3 Z a3_0 h0 n0 _ T1.heap _
    rw [e1]
    exact ⟨rfl, N0, rfl⟩
theorem d4_0 : decode prog_5_method_6_code 0 = .ok (.aload_n 0, 1) := by decide +kernel
theorem d4_1 : decode prog_5_method_6_code 1 = .ok (.getfield 38, 3) := by decide +kernel
theorem d4_4 : decode prog_5_method_6_code 4 = .ok (.areturn, 1) := by decide +kernel
theorem ef_4 (m : MethodId) (a4_0 : Addr) : entryFrame m #[(.ref a4_0)] 1 = mkF m 0 #[.val (.ref a4_0)] [] := by first | (simp [entryFrame, mkF, argsToLocals, Value.category]; done) | rfl
def Q4 (Z : State) (a4_0 : Addr) (s4 : Addr) (h0 : Heap) (n0 : Nat) (v : Option Value) (h : Heap) (L : List Loc) : Prop := v = some (.ref s4) ∧ Fr n0 L ∧ h = h0
set_option maxRecDepth 65536 in
set_option maxHeartbeats 40000000 in
theorem rm4 (l : Launch) (Z : State) (a0 : Array Value) (hw : ∀ d ∈ tables_1, d.before a0 Z = true) (ws : List Jvm.Cond) (a4_0 : Addr) (s4 : Addr) (h0 : Heap) (n0 : Nat) (Z0 : n0 ≤ h0.size) (Fs : Fld Z h0 a4_0 "com/example/batchrake/batchrake/Outcome" "status" "Ljava/lang/String;" (.ref s4)) :
    MetFree l (⟨"com/example/batchrake/batchrake/Outcome", "status", "()Ljava/lang/String;"⟩ : MethodName) (head1 (Jvm.Cond.code (⟨"com/example/batchrake/batchrake/Outcome", "status", "()Ljava/lang/String;"⟩ : MethodName) prog_5_method_6_code 1 (some (.object "java/lang/String")) :: ws) ({ frames := 0, cells := 0, slots := 0, locals := 0 } : Room)) (fun a U => a = #[(.ref a4_0)] ∧ Z.Warmed39 U.vm ∧ U.heap = h0) (fun _ _ _ _ _ => True) (fun _ U o U' => ∃ v L, o = .returned v ∧ Q4 Z a4_0 s4 h0 n0 v U'.heap L ∧ FrameEnd U o U' L ({ frames := 0, cells := 0, slots := 0, locals := 0 } : Room).cells ({ frames := 0, cells := 0, slots := 0, locals := 0 } : Room).slots) := by
  refine MetFree.of_bodySF (plainFor_of_name pn_0) hisR ?_
  intro p e s m args below meth c s₁ Bd hml0 hP hK
  obtain ⟨rfl, hZ, hh⟩ := hP
  have hx := Bd.exec
  have hby := Bd.bytes
  have hml : c.maxLocals = 1 := hml0
  have hown : s.vm.findClass "com/example/batchrake/batchrake/Outcome" = some m.cls := findClass_of_methodNamed Bd.named
  have hnm := (name_of_methodNamed Bd.named Bd.method).1
  have X0 : Stand p l e ({ frames := 0, cells := 0, slots := 0, locals := 0 } : Room) s m #[(.ref a4_0)] below meth c s₁ [] 0 0 := Stand.of_body Bd
  have e0 : s₁.heap = h0 := by rw [← hh, Bd.state]; rfl
  have N0 := Fr.nil n0
  have pre0 : ∀ t, Steps p.tables e below (s₁.setTop (mkF m 0 #[.val (.ref a4_0)] [])) t → Steps p.tables e below (s₁.setTop (entryFrame m #[(.ref a4_0)] 1)) t := fun t k => castTop (ef_4 m a4_0) k
  obtain ⟨T1, X1, e1, st1⟩ := getF X0 hx hZ hown (host := "") (Or.inl (hw _ (List.mem_of_getElem? (i := 9) rfl))) Via.refl e0 Fs (g := (mkF m 1 #[.val (.ref a4_0)] [(.ref a4_0)])) rfl rfl (hb hby d4_1)
  have k2 : ∀ t, Steps p.tables e below (T1.setTop (mkF m 4 #[.val (.ref a4_0)] [(.ref s4)])) t → Steps p.tables e below (s₁.setTop (entryFrame m #[(.ref a4_0)] 1)) t := by
    intro t k
    refine pre0 t ?_
    show Steps p.tables e below (s₁.setTop (mkF m 0 #[.val (.ref a4_0)] [])) _
    refine XS.aloadN X0.here hx rfl (hb hby d4_0) rfl rfl ?_
    show Steps p.tables e below (s₁.setTop (mkF m 1 #[.val (.ref a4_0)] [(.ref a4_0)])) _
    refine st1 _ ?_
    exact k
  obtain ⟨fs, hr, hrun, hended, hW, hsame⟩ := X1.leave (v := some (.ref s4)) (fun h => by rw [Bd.returns] at h; cases h)
  refine ⟨_, _, k2 _ ?_, hrun, hended, _, _, rfl, ?_, ⟨_, rfl⟩, hW, hsame.mono (by decide) (by decide)⟩
  · exact retOut X1 hx Bd.returns rfl (Or.inr (Or.inr (Or.inr (Or.inr ⟨rfl, rfl, rfl⟩)))) (hb hby d4_4) hr
  · show Q4 Z a4_0 s4 h0 n0 _ T1.heap _
    rw [e1]
    exact ⟨rfl, N0, rfl⟩
theorem pn_1 : plainName "com/example/batchrake/batchrake/OutcomeIsFailurePinLaw" = true := by first | (simp [plainName, overriddenIn]; done) | decide +kernel
theorem pd_0 : parseMethodDescriptor "()Z" = some ⟨[], some .boolean⟩ := by decide +kernel
theorem pd_1 : parseMethodDescriptor "()Ljava/lang/String;" = some ⟨[], some (.object "java/lang/String")⟩ := by decide +kernel
theorem ef_0 (m : MethodId) (p0_0 : Int32) : entryFrame m #[(.int p0_0)] maxLocals = mkF m 0 #[.val (.int p0_0), .unset, .unset, .unset, .unset] [] := by first | (simp [entryFrame, mkF, argsToLocals, Value.category, maxLocals]; done) | rfl
def Q0 (Z : State) (p0_0 : Int32) (u_DELETED : Addr) (u_CONFLICT : Addr) (u_CONFLICT_status : Addr) (u_NOT_FOUND : Addr) (u_STORE_ERROR : Addr) (u_STORE_ERROR_status : Addr) (u_BAD_REQUEST : Addr) (u_BAD_REQUEST_status : Addr) (h0 : Heap) (n0 : Nat) (v : Option Value) (h : Heap) (L : List Loc) : Prop := v = some (.int (1 : Int32)) ∧ Fr n0 L
set_option maxRecDepth 65536 in
set_option maxHeartbeats 40000000 in
theorem rm0 (l : Launch) (Z : State) (a0 : Array Value) (hw : ∀ d ∈ tables_1, d.before a0 Z = true) (ws : List Jvm.Cond) (p0_0 : Int32) (u_DELETED : Addr) (u_CONFLICT : Addr) (u_CONFLICT_status : Addr) (u_NOT_FOUND : Addr) (u_STORE_ERROR : Addr) (u_STORE_ERROR_status : Addr) (u_BAD_REQUEST : Addr) (u_BAD_REQUEST_status : Addr) (h0 : Heap) (n0 : Nat) (Z0 : n0 ≤ h0.size) (S_DELETED : Sta Z h0 "com/example/batchrake/batchrake/Outcome" "DELETED" "Lcom/example/batchrake/batchrake/Outcome;" (.ref u_DELETED)) (E_u_DELETED : Exa Z h0 u_DELETED "com/example/batchrake/batchrake/Outcome") (F_u_DELETED_status : Fld Z h0 u_DELETED "com/example/batchrake/batchrake/Outcome" "status" "Ljava/lang/String;" .null) (S_CONFLICT : Sta Z h0 "com/example/batchrake/batchrake/Outcome" "CONFLICT" "Lcom/example/batchrake/batchrake/Outcome;" (.ref u_CONFLICT)) (E_u_CONFLICT : Exa Z h0 u_CONFLICT "com/example/batchrake/batchrake/Outcome") (F_u_CONFLICT_status : Fld Z h0 u_CONFLICT "com/example/batchrake/batchrake/Outcome" "status" "Ljava/lang/String;" (.ref u_CONFLICT_status)) (E_u_CONFLICT_status : Exa Z h0 u_CONFLICT_status "java/lang/String") (S_NOT_FOUND : Sta Z h0 "com/example/batchrake/batchrake/Outcome" "NOT_FOUND" "Lcom/example/batchrake/batchrake/Outcome;" (.ref u_NOT_FOUND)) (E_u_NOT_FOUND : Exa Z h0 u_NOT_FOUND "com/example/batchrake/batchrake/Outcome") (F_u_NOT_FOUND_status : Fld Z h0 u_NOT_FOUND "com/example/batchrake/batchrake/Outcome" "status" "Ljava/lang/String;" .null) (S_STORE_ERROR : Sta Z h0 "com/example/batchrake/batchrake/Outcome" "STORE_ERROR" "Lcom/example/batchrake/batchrake/Outcome;" (.ref u_STORE_ERROR)) (E_u_STORE_ERROR : Exa Z h0 u_STORE_ERROR "com/example/batchrake/batchrake/Outcome") (F_u_STORE_ERROR_status : Fld Z h0 u_STORE_ERROR "com/example/batchrake/batchrake/Outcome" "status" "Ljava/lang/String;" (.ref u_STORE_ERROR_status)) (E_u_STORE_ERROR_status : Exa Z h0 u_STORE_ERROR_status "java/lang/String") (S_BAD_REQUEST : Sta Z h0 "com/example/batchrake/batchrake/Outcome" "BAD_REQUEST" "Lcom/example/batchrake/batchrake/Outcome;" (.ref u_BAD_REQUEST)) (E_u_BAD_REQUEST : Exa Z h0 u_BAD_REQUEST "com/example/batchrake/batchrake/Outcome") (F_u_BAD_REQUEST_status : Fld Z h0 u_BAD_REQUEST "com/example/batchrake/batchrake/Outcome" "status" "Ljava/lang/String;" (.ref u_BAD_REQUEST_status)) (E_u_BAD_REQUEST_status : Exa Z h0 u_BAD_REQUEST_status "java/lang/String") :
    MetFree l x (head1 (Jvm.Cond.code x code maxLocals ret :: ws) room_1) (fun a U => a = #[(.int p0_0)] ∧ Z.Warmed39 U.vm ∧ U.heap = h0) (fun _ _ _ _ _ => True) (fun _ U o U' => ∃ v L, o = .returned v ∧ Q0 Z p0_0 u_DELETED u_CONFLICT u_CONFLICT_status u_NOT_FOUND u_STORE_ERROR u_STORE_ERROR_status u_BAD_REQUEST u_BAD_REQUEST_status h0 n0 v U'.heap L ∧ FrameEnd U o U' L 0 0) := by
  refine MetFree.of_bodySF (plainFor_of_name pn_1) hisR ?_
  intro p e s m args below meth c s₁ Bd hml0 hP hK
  obtain ⟨rfl, hZ, hh⟩ := hP
  have hx := Bd.exec
  have hby := Bd.bytes
  have hml : c.maxLocals = 5 := hml0
  have hown : s.vm.findClass "com/example/batchrake/batchrake/OutcomeIsFailurePinLaw" = some m.cls := findClass_of_methodNamed Bd.named
  have hnm := (name_of_methodNamed Bd.named Bd.method).1
  have X0 : Stand p l e room_1 s m #[(.int p0_0)] below meth c s₁ [] 0 0 := Stand.of_body Bd
  have e0 : s₁.heap = h0 := by rw [← hh, Bd.state]; rfl
  have N0 := Fr.nil n0
  have pre0 : ∀ t, Steps p.tables e below (s₁.setTop (mkF m 0 #[.val (.int p0_0), .unset, .unset, .unset, .unset] [])) t → Steps p.tables e below (s₁.setTop (entryFrame m #[(.int p0_0)] maxLocals)) t := fun t k => castTop (ef_0 m p0_0) k
  have k1 : ∀ t, Steps p.tables e below (s₁.setTop (mkF m 8 #[.val (.int p0_0), .val (.int ((p0_0 &&& (2147483647 : Int32)) % (5 : Int32))), .unset, .unset, .unset] [(.int ((p0_0 &&& (2147483647 : Int32)) % (5 : Int32)))])) t → Steps p.tables e below (s₁.setTop (entryFrame m #[(.int p0_0)] maxLocals)) t := by
    intro t k
    refine pre0 t ?_
    show Steps p.tables e below (s₁.setTop (mkF m 0 #[.val (.int p0_0), .unset, .unset, .unset, .unset] [])) _
    refine XS.iloadN X0.here hx rfl (hb hby at_0) rfl ?_
    show Steps p.tables e below (s₁.setTop (mkF m 1 #[.val (.int p0_0), .unset, .unset, .unset, .unset] [(.int p0_0)])) _
    refine X0.ldcInt hx hown (mvT hZ (hw _ (List.mem_of_getElem? (i := 0) rfl))) (g := (mkF m 1 #[.val (.int p0_0), .unset, .unset, .unset, .unset] [(.int p0_0)])) rfl (hb hby at_1) _ ?_
    show Steps p.tables e below (s₁.setTop (mkF m 3 #[.val (.int p0_0), .unset, .unset, .unset, .unset] [(.int (2147483647 : Int32)), (.int p0_0)])) _
    refine XS.iand X0.here hx rfl (hb hby at_3) rfl ?_
    show Steps p.tables e below (s₁.setTop (mkF m 4 #[.val (.int p0_0), .unset, .unset, .unset, .unset] [(.int (p0_0 &&& (2147483647 : Int32)))])) _
    refine XS.iconst X0.here hx rfl (hb hby at_4) ?_
    show Steps p.tables e below (s₁.setTop (mkF m 5 #[.val (.int p0_0), .unset, .unset, .unset, .unset] [(.int (5 : Int32)), (.int (p0_0 &&& (2147483647 : Int32)))])) _
    refine iremM X0 hx rfl (hb hby at_5) rfl (by decide) ?_
    show Steps p.tables e below (s₁.setTop (mkF m 6 #[.val (.int p0_0), .unset, .unset, .unset, .unset] [(.int ((p0_0 &&& (2147483647 : Int32)) % (5 : Int32)))])) _
    refine XS.istoreN X0.here hx rfl (hb hby at_6) rfl (l' := #[.val (.int p0_0), .val (.int ((p0_0 &&& (2147483647 : Int32)) % (5 : Int32))), .unset, .unset, .unset]) rfl ?_
    show Steps p.tables e below (s₁.setTop (mkF m 7 #[.val (.int p0_0), .val (.int ((p0_0 &&& (2147483647 : Int32)) % (5 : Int32))), .unset, .unset, .unset] [])) _
    refine XS.iloadN X0.here hx rfl (hb hby at_7) rfl ?_
    exact k
  by_cases hc8_2 : ((p0_0 &&& (2147483647 : Int32)) % (5 : Int32)) = (0 : Int32)
  · skip
    obtain ⟨T3, X3, e3, st3⟩ := getS2 X0 hx hZ hown (host := "") (Or.inl (hw _ (List.mem_of_getElem? (i := 1) rfl))) Via.refl e0 S_DELETED (g := (mkF m 11 #[.val (.int p0_0), .val (.int ((p0_0 &&& (2147483647 : Int32)) % (5 : Int32))), .unset, .unset, .unset] [])) rfl (hb hby at_11)
    obtain ⟨cq4, kq4, q4a, q4b, q4c⟩ := isOf hZ e3 E_u_DELETED
    obtain ⟨_, _, ⟨T4, L4, k4, n4⟩, -, X4, ⟨Lc4, hQ4, l4, y4, z4⟩, st4⟩ := X3.virtualBack hx (y := (⟨"com/example/batchrake/batchrake/Outcome", "isFailure", "()Z"⟩ : MethodName)) (z := (⟨"com/example/batchrake/batchrake/Outcome", "isFailure", "()Z"⟩ : MethodName)) hown (mvT hZ (hw _ (List.mem_of_getElem? (i := 4) rfl))) (mvT hZ (hw _ (List.mem_of_getElem? (i := 5) rfl))) (notFace_of_selects (args := #[]) (mvT hZ (hw _ (List.mem_of_getElem? (i := 7) rfl)))) (mvT hZ (hw _ (List.mem_of_getElem? (i := 7) rfl))) (mvT hZ (hw _ (List.mem_of_getElem? (i := 6) rfl))) (by decide) (backOf (W := 0) (rm1 l Z a0 hw [] u_DELETED h0 n0 Z0 F_u_DELETED_status) hZ (hw _ (List.mem_of_getElem? (i := 8) rfl)) (hw _ (List.mem_of_getElem? (i := 2) rfl)) (by decide) (by decide)) q4a q4c (g := (mkF m 69 #[.val (.int p0_0), .val (.int ((p0_0 &&& (2147483647 : Int32)) % (5 : Int32))), .val (.ref u_DELETED), .val (.int (0 : Int32)), .unset] [(.ref u_DELETED)])) rfl (by rw [hml]; rfl) (Steps.refl _) (argsL := []) (rest := []) (lenOf pd_0 rfl) rfl (by show 2 * 0 + _ ≤ _; exact Nat.le_of_eq rfl) (hb hby at_69) (fun _ _ => ⟨rfl, e3, (by decide : 0 + 0 ≤ _), (by decide : 0 + 0 ≤ _)⟩)
    dsimp only [Pt.U, Pt.locs, Pt.cells, Pt.slots] at X4 l4 y4 z4 st4 hQ4
    subst l4 y4 z4
    obtain ⟨rfl, N4q, eh4⟩ := hQ4
    have N4 := Fr.app N0 N4q
    obtain ⟨cq5, kq5, q5a, q5b, q5c⟩ := isOf hZ eh4 E_u_DELETED
    obtain ⟨_, _, ⟨T5, L5, k5, n5⟩, -, X5, ⟨Lc5, hQ5, l5, y5, z5⟩, st5⟩ := X4.virtualBack hx (y := (⟨"com/example/batchrake/batchrake/Outcome", "status", "()Ljava/lang/String;"⟩ : MethodName)) (z := (⟨"com/example/batchrake/batchrake/Outcome", "status", "()Ljava/lang/String;"⟩ : MethodName)) hown (mvT hZ (hw _ (List.mem_of_getElem? (i := 11) rfl))) (mvT hZ (hw _ (List.mem_of_getElem? (i := 12) rfl))) (notFace_of_selects (args := #[]) (mvT hZ (hw _ (List.mem_of_getElem? (i := 14) rfl)))) (mvT hZ (hw _ (List.mem_of_getElem? (i := 14) rfl))) (mvT hZ (hw _ (List.mem_of_getElem? (i := 13) rfl))) (by decide) (backOf (W := 1) (rm3 l Z a0 hw [] u_DELETED h0 n0 Z0 F_u_DELETED_status) hZ (hw _ (List.mem_of_getElem? (i := 15) rfl)) (hw _ (List.mem_of_getElem? (i := 2) rfl)) (by decide) (by decide)) q5a q5c (g := (mkF m 83 #[.val (.int p0_0), .val (.int ((p0_0 &&& (2147483647 : Int32)) % (5 : Int32))), .val (.ref u_DELETED), .val (.int (0 : Int32)), .val (.int (0 : Int32))] [(.ref u_DELETED), (.int (0 : Int32))])) rfl (by rw [hml]; rfl) (Steps.refl _) (argsL := []) (rest := [(.int (0 : Int32))]) (lenOf pd_1 rfl) rfl (by show 2 * 0 + _ ≤ _; exact Nat.le_of_eq rfl) (hb hby at_83) (fun _ _ => ⟨rfl, eh4, (by decide : 0 + 0 ≤ _), (by decide : 0 + 0 ≤ _)⟩)
    dsimp only [Pt.U, Pt.locs, Pt.cells, Pt.slots] at X5 l5 y5 z5 st5 hQ5
    subst l5 y5 z5
    obtain ⟨rfl, N5q, eh5⟩ := hQ5
    have N5 := Fr.app N4 N5q
    have k6 : ∀ t, Steps p.tables e below (T5.setTop (mkF m 102 #[.val (.int p0_0), .val (.int ((p0_0 &&& (2147483647 : Int32)) % (5 : Int32))), .val (.ref u_DELETED), .val (.int (0 : Int32)), .val (.int (0 : Int32))] [(.int (1 : Int32))])) t → Steps p.tables e below (s₁.setTop (entryFrame m #[(.int p0_0)] maxLocals)) t := by
      intro t k
      refine k1 t ?_
      show Steps p.tables e below (s₁.setTop (mkF m 8 #[.val (.int p0_0), .val (.int ((p0_0 &&& (2147483647 : Int32)) % (5 : Int32))), .unset, .unset, .unset] [(.int ((p0_0 &&& (2147483647 : Int32)) % (5 : Int32)))])) _
      refine XS.ifNo X0.here hx rfl (hb hby at_8) rfl ((if0 _ _).trans (teq hc8_2).2) ?_
      show Steps p.tables e below (s₁.setTop (mkF m 11 #[.val (.int p0_0), .val (.int ((p0_0 &&& (2147483647 : Int32)) % (5 : Int32))), .unset, .unset, .unset] [])) _
      refine st3 _ ?_
      show Steps p.tables e below (T3.setTop (mkF m 14 #[.val (.int p0_0), .val (.int ((p0_0 &&& (2147483647 : Int32)) % (5 : Int32))), .unset, .unset, .unset] [(.ref u_DELETED)])) _
      refine XS.astoreN X3.here hx rfl (hb hby at_14) rfl rfl (l' := #[.val (.int p0_0), .val (.int ((p0_0 &&& (2147483647 : Int32)) % (5 : Int32))), .val (.ref u_DELETED), .unset, .unset]) rfl ?_
      show Steps p.tables e below (T3.setTop (mkF m 15 #[.val (.int p0_0), .val (.int ((p0_0 &&& (2147483647 : Int32)) % (5 : Int32))), .val (.ref u_DELETED), .unset, .unset] [])) _
      refine XS.iconst X3.here hx rfl (hb hby at_15) ?_
      show Steps p.tables e below (T3.setTop (mkF m 16 #[.val (.int p0_0), .val (.int ((p0_0 &&& (2147483647 : Int32)) % (5 : Int32))), .val (.ref u_DELETED), .unset, .unset] [(.int (0 : Int32))])) _
      refine XS.istoreN X3.here hx rfl (hb hby at_16) rfl (l' := #[.val (.int p0_0), .val (.int ((p0_0 &&& (2147483647 : Int32)) % (5 : Int32))), .val (.ref u_DELETED), .val (.int (0 : Int32)), .unset]) rfl ?_
      show Steps p.tables e below (T3.setTop (mkF m 17 #[.val (.int p0_0), .val (.int ((p0_0 &&& (2147483647 : Int32)) % (5 : Int32))), .val (.ref u_DELETED), .val (.int (0 : Int32)), .unset] [])) _
      refine XS.goto X3.here hx rfl (pc0 := 17) (pc' := 68) rfl (hb hby at_17) (by decide) (by decide) ?_
      show Steps p.tables e below (T3.setTop (mkF m 68 #[.val (.int p0_0), .val (.int ((p0_0 &&& (2147483647 : Int32)) % (5 : Int32))), .val (.ref u_DELETED), .val (.int (0 : Int32)), .unset] [])) _
      refine XS.aloadN X3.here hx rfl (hb hby at_68) rfl rfl ?_
      show Steps p.tables e below (T3.setTop (mkF m 69 #[.val (.int p0_0), .val (.int ((p0_0 &&& (2147483647 : Int32)) % (5 : Int32))), .val (.ref u_DELETED), .val (.int (0 : Int32)), .unset] [(.ref u_DELETED)])) _
      refine st4.trans ?_
      show Steps p.tables e below (T4.setTop (mkF m 72 #[.val (.int p0_0), .val (.int ((p0_0 &&& (2147483647 : Int32)) % (5 : Int32))), .val (.ref u_DELETED), .val (.int (0 : Int32)), .unset] [(.int (0 : Int32))])) _
      refine XS.istore X4.here hx rfl (hb hby at_72) rfl (l' := #[.val (.int p0_0), .val (.int ((p0_0 &&& (2147483647 : Int32)) % (5 : Int32))), .val (.ref u_DELETED), .val (.int (0 : Int32)), .val (.int (0 : Int32))]) rfl ?_
      show Steps p.tables e below (T4.setTop (mkF m 74 #[.val (.int p0_0), .val (.int ((p0_0 &&& (2147483647 : Int32)) % (5 : Int32))), .val (.ref u_DELETED), .val (.int (0 : Int32)), .val (.int (0 : Int32))] [])) _
      refine XS.iload X4.here hx rfl (hb hby at_74) rfl ?_
      show Steps p.tables e below (T4.setTop (mkF m 76 #[.val (.int p0_0), .val (.int ((p0_0 &&& (2147483647 : Int32)) % (5 : Int32))), .val (.ref u_DELETED), .val (.int (0 : Int32)), .val (.int (0 : Int32))] [(.int (0 : Int32))])) _
      refine XS.iloadN X4.here hx rfl (hb hby at_76) rfl ?_
      show Steps p.tables e below (T4.setTop (mkF m 77 #[.val (.int p0_0), .val (.int ((p0_0 &&& (2147483647 : Int32)) % (5 : Int32))), .val (.ref u_DELETED), .val (.int (0 : Int32)), .val (.int (0 : Int32))] [(.int (0 : Int32)), (.int (0 : Int32))])) _
      refine XS.icmpNo X4.here hx rfl (hb hby at_77) rfl (teq (by decide : (0 : Int32) = (0 : Int32))).2 ?_
      show Steps p.tables e below (T4.setTop (mkF m 80 #[.val (.int p0_0), .val (.int ((p0_0 &&& (2147483647 : Int32)) % (5 : Int32))), .val (.ref u_DELETED), .val (.int (0 : Int32)), .val (.int (0 : Int32))] [])) _
      refine XS.iload X4.here hx rfl (hb hby at_80) rfl ?_
      show Steps p.tables e below (T4.setTop (mkF m 82 #[.val (.int p0_0), .val (.int ((p0_0 &&& (2147483647 : Int32)) % (5 : Int32))), .val (.ref u_DELETED), .val (.int (0 : Int32)), .val (.int (0 : Int32))] [(.int (0 : Int32))])) _
      refine XS.aloadN X4.here hx rfl (hb hby at_82) rfl rfl ?_
      show Steps p.tables e below (T4.setTop (mkF m 83 #[.val (.int p0_0), .val (.int ((p0_0 &&& (2147483647 : Int32)) % (5 : Int32))), .val (.ref u_DELETED), .val (.int (0 : Int32)), .val (.int (0 : Int32))] [(.ref u_DELETED), (.int (0 : Int32))])) _
      refine st5.trans ?_
      show Steps p.tables e below (T5.setTop (mkF m 86 #[.val (.int p0_0), .val (.int ((p0_0 &&& (2147483647 : Int32)) % (5 : Int32))), .val (.ref u_DELETED), .val (.int (0 : Int32)), .val (.int (0 : Int32))] [.null, (.int (0 : Int32))])) _
      refine XS.ifnullYes X5.here hx rfl (pc0 := 86) (pc' := 93) rfl (hb hby at_86) rfl (by decide) (by decide) ?_
      show Steps p.tables e below (T5.setTop (mkF m 93 #[.val (.int p0_0), .val (.int ((p0_0 &&& (2147483647 : Int32)) % (5 : Int32))), .val (.ref u_DELETED), .val (.int (0 : Int32)), .val (.int (0 : Int32))] [(.int (0 : Int32))])) _
      refine XS.iconst X5.here hx rfl (hb hby at_93) ?_
      show Steps p.tables e below (T5.setTop (mkF m 94 #[.val (.int p0_0), .val (.int ((p0_0 &&& (2147483647 : Int32)) % (5 : Int32))), .val (.ref u_DELETED), .val (.int (0 : Int32)), .val (.int (0 : Int32))] [(.int (0 : Int32)), (.int (0 : Int32))])) _
      refine XS.icmpNo X5.here hx rfl (hb hby at_94) rfl (teq (by decide : (0 : Int32) = (0 : Int32))).2 ?_
      show Steps p.tables e below (T5.setTop (mkF m 97 #[.val (.int p0_0), .val (.int ((p0_0 &&& (2147483647 : Int32)) % (5 : Int32))), .val (.ref u_DELETED), .val (.int (0 : Int32)), .val (.int (0 : Int32))] [])) _
      refine XS.iconst X5.here hx rfl (hb hby at_97) ?_
      show Steps p.tables e below (T5.setTop (mkF m 98 #[.val (.int p0_0), .val (.int ((p0_0 &&& (2147483647 : Int32)) % (5 : Int32))), .val (.ref u_DELETED), .val (.int (0 : Int32)), .val (.int (0 : Int32))] [(.int (1 : Int32))])) _
      refine XS.goto X5.here hx rfl (pc0 := 98) (pc' := 102) rfl (hb hby at_98) (by decide) (by decide) ?_
      exact k
    obtain ⟨fs, hr, hrun, hended, hW, hsame⟩ := X5.leave (v := some (.int (1 : Int32))) (fun h => by rw [Bd.returns] at h; cases h)
    refine ⟨_, _, k6 _ ?_, hrun, hended, _, _, rfl, ?_, ⟨_, rfl⟩, hW, hsame.mono (by decide) (by decide)⟩
    · exact retN X5 hx (t := .boolean) Bd.returns (by simp) (hb hby at_102) hr
    · show Q0 Z p0_0 u_DELETED u_CONFLICT u_CONFLICT_status u_NOT_FOUND u_STORE_ERROR u_STORE_ERROR_status u_BAD_REQUEST u_BAD_REQUEST_status h0 n0 _ T5.heap _
      rw [eh5]
      exact ⟨rfl, N5⟩
  · skip
    have k7 : ∀ t, Steps p.tables e below (s₁.setTop (mkF m 22 #[.val (.int p0_0), .val (.int ((p0_0 &&& (2147483647 : Int32)) % (5 : Int32))), .unset, .unset, .unset] [(.int (1 : Int32)), (.int ((p0_0 &&& (2147483647 : Int32)) % (5 : Int32)))])) t → Steps p.tables e below (s₁.setTop (entryFrame m #[(.int p0_0)] maxLocals)) t := by
      intro t k
      refine k1 t ?_
      show Steps p.tables e below (s₁.setTop (mkF m 8 #[.val (.int p0_0), .val (.int ((p0_0 &&& (2147483647 : Int32)) % (5 : Int32))), .unset, .unset, .unset] [(.int ((p0_0 &&& (2147483647 : Int32)) % (5 : Int32)))])) _
      refine XS.ifYes X0.here hx rfl (pc0 := 8) (pc' := 20) rfl (hb hby at_8) rfl ((if0 _ _).trans (feq hc8_2).2) (by decide) (by decide) ?_
      show Steps p.tables e below (s₁.setTop (mkF m 20 #[.val (.int p0_0), .val (.int ((p0_0 &&& (2147483647 : Int32)) % (5 : Int32))), .unset, .unset, .unset] [])) _
      refine XS.iloadN X0.here hx rfl (hb hby at_20) rfl ?_
      show Steps p.tables e below (s₁.setTop (mkF m 21 #[.val (.int p0_0), .val (.int ((p0_0 &&& (2147483647 : Int32)) % (5 : Int32))), .unset, .unset, .unset] [(.int ((p0_0 &&& (2147483647 : Int32)) % (5 : Int32)))])) _
      refine XS.iconst X0.here hx rfl (hb hby at_21) ?_
      exact k
    by_cases hc22_8 : ((p0_0 &&& (2147483647 : Int32)) % (5 : Int32)) = (1 : Int32)
    · skip
      obtain ⟨T9, X9, e9, st9⟩ := getS2 X0 hx hZ hown (host := "") (Or.inl (hw _ (List.mem_of_getElem? (i := 18) rfl))) Via.refl e0 S_NOT_FOUND (g := (mkF m 25 #[.val (.int p0_0), .val (.int ((p0_0 &&& (2147483647 : Int32)) % (5 : Int32))), .unset, .unset, .unset] [])) rfl (hb hby at_25)
      obtain ⟨cq10, kq10, q10a, q10b, q10c⟩ := isOf hZ e9 E_u_NOT_FOUND
      obtain ⟨_, _, ⟨T10, L10, k10, n10⟩, -, X10, ⟨Lc10, hQ10, l10, y10, z10⟩, st10⟩ := X9.virtualBack hx (y := (⟨"com/example/batchrake/batchrake/Outcome", "isFailure", "()Z"⟩ : MethodName)) (z := (⟨"com/example/batchrake/batchrake/Outcome", "isFailure", "()Z"⟩ : MethodName)) hown (mvT hZ (hw _ (List.mem_of_getElem? (i := 4) rfl))) (mvT hZ (hw _ (List.mem_of_getElem? (i := 5) rfl))) (notFace_of_selects (args := #[]) (mvT hZ (hw _ (List.mem_of_getElem? (i := 7) rfl)))) (mvT hZ (hw _ (List.mem_of_getElem? (i := 7) rfl))) (mvT hZ (hw _ (List.mem_of_getElem? (i := 6) rfl))) (by decide) (backOf (W := 0) (rm1 l Z a0 hw [] u_NOT_FOUND h0 n0 Z0 F_u_NOT_FOUND_status) hZ (hw _ (List.mem_of_getElem? (i := 8) rfl)) (hw _ (List.mem_of_getElem? (i := 2) rfl)) (by decide) (by decide)) q10a q10c (g := (mkF m 69 #[.val (.int p0_0), .val (.int ((p0_0 &&& (2147483647 : Int32)) % (5 : Int32))), .val (.ref u_NOT_FOUND), .val (.int (0 : Int32)), .unset] [(.ref u_NOT_FOUND)])) rfl (by rw [hml]; rfl) (Steps.refl _) (argsL := []) (rest := []) (lenOf pd_0 rfl) rfl (by show 2 * 0 + _ ≤ _; exact Nat.le_of_eq rfl) (hb hby at_69) (fun _ _ => ⟨rfl, e9, (by decide : 0 + 0 ≤ _), (by decide : 0 + 0 ≤ _)⟩)
      dsimp only [Pt.U, Pt.locs, Pt.cells, Pt.slots] at X10 l10 y10 z10 st10 hQ10
      subst l10 y10 z10
      obtain ⟨rfl, N10q, eh10⟩ := hQ10
      have N10 := Fr.app N0 N10q
      obtain ⟨cq11, kq11, q11a, q11b, q11c⟩ := isOf hZ eh10 E_u_NOT_FOUND
      obtain ⟨_, _, ⟨T11, L11, k11, n11⟩, -, X11, ⟨Lc11, hQ11, l11, y11, z11⟩, st11⟩ := X10.virtualBack hx (y := (⟨"com/example/batchrake/batchrake/Outcome", "status", "()Ljava/lang/String;"⟩ : MethodName)) (z := (⟨"com/example/batchrake/batchrake/Outcome", "status", "()Ljava/lang/String;"⟩ : MethodName)) hown (mvT hZ (hw _ (List.mem_of_getElem? (i := 11) rfl))) (mvT hZ (hw _ (List.mem_of_getElem? (i := 12) rfl))) (notFace_of_selects (args := #[]) (mvT hZ (hw _ (List.mem_of_getElem? (i := 14) rfl)))) (mvT hZ (hw _ (List.mem_of_getElem? (i := 14) rfl))) (mvT hZ (hw _ (List.mem_of_getElem? (i := 13) rfl))) (by decide) (backOf (W := 1) (rm3 l Z a0 hw [] u_NOT_FOUND h0 n0 Z0 F_u_NOT_FOUND_status) hZ (hw _ (List.mem_of_getElem? (i := 15) rfl)) (hw _ (List.mem_of_getElem? (i := 2) rfl)) (by decide) (by decide)) q11a q11c (g := (mkF m 83 #[.val (.int p0_0), .val (.int ((p0_0 &&& (2147483647 : Int32)) % (5 : Int32))), .val (.ref u_NOT_FOUND), .val (.int (0 : Int32)), .val (.int (0 : Int32))] [(.ref u_NOT_FOUND), (.int (0 : Int32))])) rfl (by rw [hml]; rfl) (Steps.refl _) (argsL := []) (rest := [(.int (0 : Int32))]) (lenOf pd_1 rfl) rfl (by show 2 * 0 + _ ≤ _; exact Nat.le_of_eq rfl) (hb hby at_83) (fun _ _ => ⟨rfl, eh10, (by decide : 0 + 0 ≤ _), (by decide : 0 + 0 ≤ _)⟩)
      dsimp only [Pt.U, Pt.locs, Pt.cells, Pt.slots] at X11 l11 y11 z11 st11 hQ11
      subst l11 y11 z11
      obtain ⟨rfl, N11q, eh11⟩ := hQ11
      have N11 := Fr.app N10 N11q
      have k12 : ∀ t, Steps p.tables e below (T11.setTop (mkF m 102 #[.val (.int p0_0), .val (.int ((p0_0 &&& (2147483647 : Int32)) % (5 : Int32))), .val (.ref u_NOT_FOUND), .val (.int (0 : Int32)), .val (.int (0 : Int32))] [(.int (1 : Int32))])) t → Steps p.tables e below (s₁.setTop (entryFrame m #[(.int p0_0)] maxLocals)) t := by
        intro t k
        refine k7 t ?_
        show Steps p.tables e below (s₁.setTop (mkF m 22 #[.val (.int p0_0), .val (.int ((p0_0 &&& (2147483647 : Int32)) % (5 : Int32))), .unset, .unset, .unset] [(.int (1 : Int32)), (.int ((p0_0 &&& (2147483647 : Int32)) % (5 : Int32)))])) _
        refine XS.icmpNo X0.here hx rfl (hb hby at_22) rfl (teq hc22_8).2 ?_
        show Steps p.tables e below (s₁.setTop (mkF m 25 #[.val (.int p0_0), .val (.int ((p0_0 &&& (2147483647 : Int32)) % (5 : Int32))), .unset, .unset, .unset] [])) _
        refine st9 _ ?_
        show Steps p.tables e below (T9.setTop (mkF m 28 #[.val (.int p0_0), .val (.int ((p0_0 &&& (2147483647 : Int32)) % (5 : Int32))), .unset, .unset, .unset] [(.ref u_NOT_FOUND)])) _
        refine XS.astoreN X9.here hx rfl (hb hby at_28) rfl rfl (l' := #[.val (.int p0_0), .val (.int ((p0_0 &&& (2147483647 : Int32)) % (5 : Int32))), .val (.ref u_NOT_FOUND), .unset, .unset]) rfl ?_
        show Steps p.tables e below (T9.setTop (mkF m 29 #[.val (.int p0_0), .val (.int ((p0_0 &&& (2147483647 : Int32)) % (5 : Int32))), .val (.ref u_NOT_FOUND), .unset, .unset] [])) _
        refine XS.iconst X9.here hx rfl (hb hby at_29) ?_
        show Steps p.tables e below (T9.setTop (mkF m 30 #[.val (.int p0_0), .val (.int ((p0_0 &&& (2147483647 : Int32)) % (5 : Int32))), .val (.ref u_NOT_FOUND), .unset, .unset] [(.int (0 : Int32))])) _
        refine XS.istoreN X9.here hx rfl (hb hby at_30) rfl (l' := #[.val (.int p0_0), .val (.int ((p0_0 &&& (2147483647 : Int32)) % (5 : Int32))), .val (.ref u_NOT_FOUND), .val (.int (0 : Int32)), .unset]) rfl ?_
        show Steps p.tables e below (T9.setTop (mkF m 31 #[.val (.int p0_0), .val (.int ((p0_0 &&& (2147483647 : Int32)) % (5 : Int32))), .val (.ref u_NOT_FOUND), .val (.int (0 : Int32)), .unset] [])) _
        refine XS.goto X9.here hx rfl (pc0 := 31) (pc' := 68) rfl (hb hby at_31) (by decide) (by decide) ?_
        show Steps p.tables e below (T9.setTop (mkF m 68 #[.val (.int p0_0), .val (.int ((p0_0 &&& (2147483647 : Int32)) % (5 : Int32))), .val (.ref u_NOT_FOUND), .val (.int (0 : Int32)), .unset] [])) _
        refine XS.aloadN X9.here hx rfl (hb hby at_68) rfl rfl ?_
        show Steps p.tables e below (T9.setTop (mkF m 69 #[.val (.int p0_0), .val (.int ((p0_0 &&& (2147483647 : Int32)) % (5 : Int32))), .val (.ref u_NOT_FOUND), .val (.int (0 : Int32)), .unset] [(.ref u_NOT_FOUND)])) _
        refine st10.trans ?_
        show Steps p.tables e below (T10.setTop (mkF m 72 #[.val (.int p0_0), .val (.int ((p0_0 &&& (2147483647 : Int32)) % (5 : Int32))), .val (.ref u_NOT_FOUND), .val (.int (0 : Int32)), .unset] [(.int (0 : Int32))])) _
        refine XS.istore X10.here hx rfl (hb hby at_72) rfl (l' := #[.val (.int p0_0), .val (.int ((p0_0 &&& (2147483647 : Int32)) % (5 : Int32))), .val (.ref u_NOT_FOUND), .val (.int (0 : Int32)), .val (.int (0 : Int32))]) rfl ?_
        show Steps p.tables e below (T10.setTop (mkF m 74 #[.val (.int p0_0), .val (.int ((p0_0 &&& (2147483647 : Int32)) % (5 : Int32))), .val (.ref u_NOT_FOUND), .val (.int (0 : Int32)), .val (.int (0 : Int32))] [])) _
        refine XS.iload X10.here hx rfl (hb hby at_74) rfl ?_
        show Steps p.tables e below (T10.setTop (mkF m 76 #[.val (.int p0_0), .val (.int ((p0_0 &&& (2147483647 : Int32)) % (5 : Int32))), .val (.ref u_NOT_FOUND), .val (.int (0 : Int32)), .val (.int (0 : Int32))] [(.int (0 : Int32))])) _
        refine XS.iloadN X10.here hx rfl (hb hby at_76) rfl ?_
        show Steps p.tables e below (T10.setTop (mkF m 77 #[.val (.int p0_0), .val (.int ((p0_0 &&& (2147483647 : Int32)) % (5 : Int32))), .val (.ref u_NOT_FOUND), .val (.int (0 : Int32)), .val (.int (0 : Int32))] [(.int (0 : Int32)), (.int (0 : Int32))])) _
        refine XS.icmpNo X10.here hx rfl (hb hby at_77) rfl (teq (by decide : (0 : Int32) = (0 : Int32))).2 ?_
        show Steps p.tables e below (T10.setTop (mkF m 80 #[.val (.int p0_0), .val (.int ((p0_0 &&& (2147483647 : Int32)) % (5 : Int32))), .val (.ref u_NOT_FOUND), .val (.int (0 : Int32)), .val (.int (0 : Int32))] [])) _
        refine XS.iload X10.here hx rfl (hb hby at_80) rfl ?_
        show Steps p.tables e below (T10.setTop (mkF m 82 #[.val (.int p0_0), .val (.int ((p0_0 &&& (2147483647 : Int32)) % (5 : Int32))), .val (.ref u_NOT_FOUND), .val (.int (0 : Int32)), .val (.int (0 : Int32))] [(.int (0 : Int32))])) _
        refine XS.aloadN X10.here hx rfl (hb hby at_82) rfl rfl ?_
        show Steps p.tables e below (T10.setTop (mkF m 83 #[.val (.int p0_0), .val (.int ((p0_0 &&& (2147483647 : Int32)) % (5 : Int32))), .val (.ref u_NOT_FOUND), .val (.int (0 : Int32)), .val (.int (0 : Int32))] [(.ref u_NOT_FOUND), (.int (0 : Int32))])) _
        refine st11.trans ?_
        show Steps p.tables e below (T11.setTop (mkF m 86 #[.val (.int p0_0), .val (.int ((p0_0 &&& (2147483647 : Int32)) % (5 : Int32))), .val (.ref u_NOT_FOUND), .val (.int (0 : Int32)), .val (.int (0 : Int32))] [.null, (.int (0 : Int32))])) _
        refine XS.ifnullYes X11.here hx rfl (pc0 := 86) (pc' := 93) rfl (hb hby at_86) rfl (by decide) (by decide) ?_
        show Steps p.tables e below (T11.setTop (mkF m 93 #[.val (.int p0_0), .val (.int ((p0_0 &&& (2147483647 : Int32)) % (5 : Int32))), .val (.ref u_NOT_FOUND), .val (.int (0 : Int32)), .val (.int (0 : Int32))] [(.int (0 : Int32))])) _
        refine XS.iconst X11.here hx rfl (hb hby at_93) ?_
        show Steps p.tables e below (T11.setTop (mkF m 94 #[.val (.int p0_0), .val (.int ((p0_0 &&& (2147483647 : Int32)) % (5 : Int32))), .val (.ref u_NOT_FOUND), .val (.int (0 : Int32)), .val (.int (0 : Int32))] [(.int (0 : Int32)), (.int (0 : Int32))])) _
        refine XS.icmpNo X11.here hx rfl (hb hby at_94) rfl (teq (by decide : (0 : Int32) = (0 : Int32))).2 ?_
        show Steps p.tables e below (T11.setTop (mkF m 97 #[.val (.int p0_0), .val (.int ((p0_0 &&& (2147483647 : Int32)) % (5 : Int32))), .val (.ref u_NOT_FOUND), .val (.int (0 : Int32)), .val (.int (0 : Int32))] [])) _
        refine XS.iconst X11.here hx rfl (hb hby at_97) ?_
        show Steps p.tables e below (T11.setTop (mkF m 98 #[.val (.int p0_0), .val (.int ((p0_0 &&& (2147483647 : Int32)) % (5 : Int32))), .val (.ref u_NOT_FOUND), .val (.int (0 : Int32)), .val (.int (0 : Int32))] [(.int (1 : Int32))])) _
        refine XS.goto X11.here hx rfl (pc0 := 98) (pc' := 102) rfl (hb hby at_98) (by decide) (by decide) ?_
        exact k
      obtain ⟨fs, hr, hrun, hended, hW, hsame⟩ := X11.leave (v := some (.int (1 : Int32))) (fun h => by rw [Bd.returns] at h; cases h)
      refine ⟨_, _, k12 _ ?_, hrun, hended, _, _, rfl, ?_, ⟨_, rfl⟩, hW, hsame.mono (by decide) (by decide)⟩
      · exact retN X11 hx (t := .boolean) Bd.returns (by simp) (hb hby at_102) hr
      · show Q0 Z p0_0 u_DELETED u_CONFLICT u_CONFLICT_status u_NOT_FOUND u_STORE_ERROR u_STORE_ERROR_status u_BAD_REQUEST u_BAD_REQUEST_status h0 n0 _ T11.heap _
        rw [eh11]
        exact ⟨rfl, N11⟩
    · skip
      have k13 : ∀ t, Steps p.tables e below (s₁.setTop (mkF m 36 #[.val (.int p0_0), .val (.int ((p0_0 &&& (2147483647 : Int32)) % (5 : Int32))), .unset, .unset, .unset] [(.int (2 : Int32)), (.int ((p0_0 &&& (2147483647 : Int32)) % (5 : Int32)))])) t → Steps p.tables e below (s₁.setTop (entryFrame m #[(.int p0_0)] maxLocals)) t := by
        intro t k
        refine k7 t ?_
        show Steps p.tables e below (s₁.setTop (mkF m 22 #[.val (.int p0_0), .val (.int ((p0_0 &&& (2147483647 : Int32)) % (5 : Int32))), .unset, .unset, .unset] [(.int (1 : Int32)), (.int ((p0_0 &&& (2147483647 : Int32)) % (5 : Int32)))])) _
        refine XS.icmpYes X0.here hx rfl (pc0 := 22) (pc' := 34) rfl (hb hby at_22) rfl (feq hc22_8).2 (by decide) (by decide) ?_
        show Steps p.tables e below (s₁.setTop (mkF m 34 #[.val (.int p0_0), .val (.int ((p0_0 &&& (2147483647 : Int32)) % (5 : Int32))), .unset, .unset, .unset] [])) _
        refine XS.iloadN X0.here hx rfl (hb hby at_34) rfl ?_
        show Steps p.tables e below (s₁.setTop (mkF m 35 #[.val (.int p0_0), .val (.int ((p0_0 &&& (2147483647 : Int32)) % (5 : Int32))), .unset, .unset, .unset] [(.int ((p0_0 &&& (2147483647 : Int32)) % (5 : Int32)))])) _
        refine XS.iconst X0.here hx rfl (hb hby at_35) ?_
        exact k
      by_cases hc36_14 : ((p0_0 &&& (2147483647 : Int32)) % (5 : Int32)) = (2 : Int32)
      · skip
        obtain ⟨T15, X15, e15, st15⟩ := getS2 X0 hx hZ hown (host := "") (Or.inl (hw _ (List.mem_of_getElem? (i := 22) rfl))) Via.refl e0 S_BAD_REQUEST (g := (mkF m 39 #[.val (.int p0_0), .val (.int ((p0_0 &&& (2147483647 : Int32)) % (5 : Int32))), .unset, .unset, .unset] [])) rfl (hb hby at_39)
        obtain ⟨cq16, kq16, q16a, q16b, q16c⟩ := isOf hZ e15 E_u_BAD_REQUEST
        obtain ⟨_, _, ⟨T16, L16, k16, n16⟩, -, X16, ⟨Lc16, hQ16, l16, y16, z16⟩, st16⟩ := X15.virtualBack hx (y := (⟨"com/example/batchrake/batchrake/Outcome", "isFailure", "()Z"⟩ : MethodName)) (z := (⟨"com/example/batchrake/batchrake/Outcome", "isFailure", "()Z"⟩ : MethodName)) hown (mvT hZ (hw _ (List.mem_of_getElem? (i := 4) rfl))) (mvT hZ (hw _ (List.mem_of_getElem? (i := 5) rfl))) (notFace_of_selects (args := #[]) (mvT hZ (hw _ (List.mem_of_getElem? (i := 7) rfl)))) (mvT hZ (hw _ (List.mem_of_getElem? (i := 7) rfl))) (mvT hZ (hw _ (List.mem_of_getElem? (i := 6) rfl))) (by decide) (backOf (W := 0) (rm2 l Z a0 hw [] u_BAD_REQUEST u_BAD_REQUEST_status h0 n0 Z0 F_u_BAD_REQUEST_status) hZ (hw _ (List.mem_of_getElem? (i := 8) rfl)) (hw _ (List.mem_of_getElem? (i := 2) rfl)) (by decide) (by decide)) q16a q16c (g := (mkF m 69 #[.val (.int p0_0), .val (.int ((p0_0 &&& (2147483647 : Int32)) % (5 : Int32))), .val (.ref u_BAD_REQUEST), .val (.int (1 : Int32)), .unset] [(.ref u_BAD_REQUEST)])) rfl (by rw [hml]; rfl) (Steps.refl _) (argsL := []) (rest := []) (lenOf pd_0 rfl) rfl (by show 2 * 0 + _ ≤ _; exact Nat.le_of_eq rfl) (hb hby at_69) (fun _ _ => ⟨rfl, e15, (by decide : 0 + 0 ≤ _), (by decide : 0 + 0 ≤ _)⟩)
        dsimp only [Pt.U, Pt.locs, Pt.cells, Pt.slots] at X16 l16 y16 z16 st16 hQ16
        subst l16 y16 z16
        obtain ⟨rfl, N16q, eh16⟩ := hQ16
        have N16 := Fr.app N0 N16q
        obtain ⟨cq17, kq17, q17a, q17b, q17c⟩ := isOf hZ eh16 E_u_BAD_REQUEST
        obtain ⟨_, _, ⟨T17, L17, k17, n17⟩, -, X17, ⟨Lc17, hQ17, l17, y17, z17⟩, st17⟩ := X16.virtualBack hx (y := (⟨"com/example/batchrake/batchrake/Outcome", "status", "()Ljava/lang/String;"⟩ : MethodName)) (z := (⟨"com/example/batchrake/batchrake/Outcome", "status", "()Ljava/lang/String;"⟩ : MethodName)) hown (mvT hZ (hw _ (List.mem_of_getElem? (i := 11) rfl))) (mvT hZ (hw _ (List.mem_of_getElem? (i := 12) rfl))) (notFace_of_selects (args := #[]) (mvT hZ (hw _ (List.mem_of_getElem? (i := 14) rfl)))) (mvT hZ (hw _ (List.mem_of_getElem? (i := 14) rfl))) (mvT hZ (hw _ (List.mem_of_getElem? (i := 13) rfl))) (by decide) (backOf (W := 1) (rm4 l Z a0 hw [] u_BAD_REQUEST u_BAD_REQUEST_status h0 n0 Z0 F_u_BAD_REQUEST_status) hZ (hw _ (List.mem_of_getElem? (i := 15) rfl)) (hw _ (List.mem_of_getElem? (i := 2) rfl)) (by decide) (by decide)) q17a q17c (g := (mkF m 83 #[.val (.int p0_0), .val (.int ((p0_0 &&& (2147483647 : Int32)) % (5 : Int32))), .val (.ref u_BAD_REQUEST), .val (.int (1 : Int32)), .val (.int (1 : Int32))] [(.ref u_BAD_REQUEST), (.int (1 : Int32))])) rfl (by rw [hml]; rfl) (Steps.refl _) (argsL := []) (rest := [(.int (1 : Int32))]) (lenOf pd_1 rfl) rfl (by show 2 * 0 + _ ≤ _; exact Nat.le_of_eq rfl) (hb hby at_83) (fun _ _ => ⟨rfl, eh16, (by decide : 0 + 0 ≤ _), (by decide : 0 + 0 ≤ _)⟩)
        dsimp only [Pt.U, Pt.locs, Pt.cells, Pt.slots] at X17 l17 y17 z17 st17 hQ17
        subst l17 y17 z17
        obtain ⟨rfl, N17q, eh17⟩ := hQ17
        have N17 := Fr.app N16 N17q
        have k18 : ∀ t, Steps p.tables e below (T17.setTop (mkF m 102 #[.val (.int p0_0), .val (.int ((p0_0 &&& (2147483647 : Int32)) % (5 : Int32))), .val (.ref u_BAD_REQUEST), .val (.int (1 : Int32)), .val (.int (1 : Int32))] [(.int (1 : Int32))])) t → Steps p.tables e below (s₁.setTop (entryFrame m #[(.int p0_0)] maxLocals)) t := by
          intro t k
          refine k13 t ?_
          show Steps p.tables e below (s₁.setTop (mkF m 36 #[.val (.int p0_0), .val (.int ((p0_0 &&& (2147483647 : Int32)) % (5 : Int32))), .unset, .unset, .unset] [(.int (2 : Int32)), (.int ((p0_0 &&& (2147483647 : Int32)) % (5 : Int32)))])) _
          refine XS.icmpNo X0.here hx rfl (hb hby at_36) rfl (teq hc36_14).2 ?_
          show Steps p.tables e below (s₁.setTop (mkF m 39 #[.val (.int p0_0), .val (.int ((p0_0 &&& (2147483647 : Int32)) % (5 : Int32))), .unset, .unset, .unset] [])) _
          refine st15 _ ?_
          show Steps p.tables e below (T15.setTop (mkF m 42 #[.val (.int p0_0), .val (.int ((p0_0 &&& (2147483647 : Int32)) % (5 : Int32))), .unset, .unset, .unset] [(.ref u_BAD_REQUEST)])) _
          refine XS.astoreN X15.here hx rfl (hb hby at_42) rfl rfl (l' := #[.val (.int p0_0), .val (.int ((p0_0 &&& (2147483647 : Int32)) % (5 : Int32))), .val (.ref u_BAD_REQUEST), .unset, .unset]) rfl ?_
          show Steps p.tables e below (T15.setTop (mkF m 43 #[.val (.int p0_0), .val (.int ((p0_0 &&& (2147483647 : Int32)) % (5 : Int32))), .val (.ref u_BAD_REQUEST), .unset, .unset] [])) _
          refine XS.iconst X15.here hx rfl (hb hby at_43) ?_
          show Steps p.tables e below (T15.setTop (mkF m 44 #[.val (.int p0_0), .val (.int ((p0_0 &&& (2147483647 : Int32)) % (5 : Int32))), .val (.ref u_BAD_REQUEST), .unset, .unset] [(.int (1 : Int32))])) _
          refine XS.istoreN X15.here hx rfl (hb hby at_44) rfl (l' := #[.val (.int p0_0), .val (.int ((p0_0 &&& (2147483647 : Int32)) % (5 : Int32))), .val (.ref u_BAD_REQUEST), .val (.int (1 : Int32)), .unset]) rfl ?_
          show Steps p.tables e below (T15.setTop (mkF m 45 #[.val (.int p0_0), .val (.int ((p0_0 &&& (2147483647 : Int32)) % (5 : Int32))), .val (.ref u_BAD_REQUEST), .val (.int (1 : Int32)), .unset] [])) _
          refine XS.goto X15.here hx rfl (pc0 := 45) (pc' := 68) rfl (hb hby at_45) (by decide) (by decide) ?_
          show Steps p.tables e below (T15.setTop (mkF m 68 #[.val (.int p0_0), .val (.int ((p0_0 &&& (2147483647 : Int32)) % (5 : Int32))), .val (.ref u_BAD_REQUEST), .val (.int (1 : Int32)), .unset] [])) _
          refine XS.aloadN X15.here hx rfl (hb hby at_68) rfl rfl ?_
          show Steps p.tables e below (T15.setTop (mkF m 69 #[.val (.int p0_0), .val (.int ((p0_0 &&& (2147483647 : Int32)) % (5 : Int32))), .val (.ref u_BAD_REQUEST), .val (.int (1 : Int32)), .unset] [(.ref u_BAD_REQUEST)])) _
          refine st16.trans ?_
          show Steps p.tables e below (T16.setTop (mkF m 72 #[.val (.int p0_0), .val (.int ((p0_0 &&& (2147483647 : Int32)) % (5 : Int32))), .val (.ref u_BAD_REQUEST), .val (.int (1 : Int32)), .unset] [(.int (1 : Int32))])) _
          refine XS.istore X16.here hx rfl (hb hby at_72) rfl (l' := #[.val (.int p0_0), .val (.int ((p0_0 &&& (2147483647 : Int32)) % (5 : Int32))), .val (.ref u_BAD_REQUEST), .val (.int (1 : Int32)), .val (.int (1 : Int32))]) rfl ?_
          show Steps p.tables e below (T16.setTop (mkF m 74 #[.val (.int p0_0), .val (.int ((p0_0 &&& (2147483647 : Int32)) % (5 : Int32))), .val (.ref u_BAD_REQUEST), .val (.int (1 : Int32)), .val (.int (1 : Int32))] [])) _
          refine XS.iload X16.here hx rfl (hb hby at_74) rfl ?_
          show Steps p.tables e below (T16.setTop (mkF m 76 #[.val (.int p0_0), .val (.int ((p0_0 &&& (2147483647 : Int32)) % (5 : Int32))), .val (.ref u_BAD_REQUEST), .val (.int (1 : Int32)), .val (.int (1 : Int32))] [(.int (1 : Int32))])) _
          refine XS.iloadN X16.here hx rfl (hb hby at_76) rfl ?_
          show Steps p.tables e below (T16.setTop (mkF m 77 #[.val (.int p0_0), .val (.int ((p0_0 &&& (2147483647 : Int32)) % (5 : Int32))), .val (.ref u_BAD_REQUEST), .val (.int (1 : Int32)), .val (.int (1 : Int32))] [(.int (1 : Int32)), (.int (1 : Int32))])) _
          refine XS.icmpNo X16.here hx rfl (hb hby at_77) rfl (teq (by decide : (1 : Int32) = (1 : Int32))).2 ?_
          show Steps p.tables e below (T16.setTop (mkF m 80 #[.val (.int p0_0), .val (.int ((p0_0 &&& (2147483647 : Int32)) % (5 : Int32))), .val (.ref u_BAD_REQUEST), .val (.int (1 : Int32)), .val (.int (1 : Int32))] [])) _
          refine XS.iload X16.here hx rfl (hb hby at_80) rfl ?_
          show Steps p.tables e below (T16.setTop (mkF m 82 #[.val (.int p0_0), .val (.int ((p0_0 &&& (2147483647 : Int32)) % (5 : Int32))), .val (.ref u_BAD_REQUEST), .val (.int (1 : Int32)), .val (.int (1 : Int32))] [(.int (1 : Int32))])) _
          refine XS.aloadN X16.here hx rfl (hb hby at_82) rfl rfl ?_
          show Steps p.tables e below (T16.setTop (mkF m 83 #[.val (.int p0_0), .val (.int ((p0_0 &&& (2147483647 : Int32)) % (5 : Int32))), .val (.ref u_BAD_REQUEST), .val (.int (1 : Int32)), .val (.int (1 : Int32))] [(.ref u_BAD_REQUEST), (.int (1 : Int32))])) _
          refine st17.trans ?_
          show Steps p.tables e below (T17.setTop (mkF m 86 #[.val (.int p0_0), .val (.int ((p0_0 &&& (2147483647 : Int32)) % (5 : Int32))), .val (.ref u_BAD_REQUEST), .val (.int (1 : Int32)), .val (.int (1 : Int32))] [(.ref u_BAD_REQUEST_status), (.int (1 : Int32))])) _
          refine XS.ifnullNo X17.here hx rfl (hb hby at_86) rfl ?_
          show Steps p.tables e below (T17.setTop (mkF m 89 #[.val (.int p0_0), .val (.int ((p0_0 &&& (2147483647 : Int32)) % (5 : Int32))), .val (.ref u_BAD_REQUEST), .val (.int (1 : Int32)), .val (.int (1 : Int32))] [(.int (1 : Int32))])) _
          refine XS.iconst X17.here hx rfl (hb hby at_89) ?_
          show Steps p.tables e below (T17.setTop (mkF m 90 #[.val (.int p0_0), .val (.int ((p0_0 &&& (2147483647 : Int32)) % (5 : Int32))), .val (.ref u_BAD_REQUEST), .val (.int (1 : Int32)), .val (.int (1 : Int32))] [(.int (1 : Int32)), (.int (1 : Int32))])) _
          refine XS.goto X17.here hx rfl (pc0 := 90) (pc' := 94) rfl (hb hby at_90) (by decide) (by decide) ?_
          show Steps p.tables e below (T17.setTop (mkF m 94 #[.val (.int p0_0), .val (.int ((p0_0 &&& (2147483647 : Int32)) % (5 : Int32))), .val (.ref u_BAD_REQUEST), .val (.int (1 : Int32)), .val (.int (1 : Int32))] [(.int (1 : Int32)), (.int (1 : Int32))])) _
          refine XS.icmpNo X17.here hx rfl (hb hby at_94) rfl (teq (by decide : (1 : Int32) = (1 : Int32))).2 ?_
          show Steps p.tables e below (T17.setTop (mkF m 97 #[.val (.int p0_0), .val (.int ((p0_0 &&& (2147483647 : Int32)) % (5 : Int32))), .val (.ref u_BAD_REQUEST), .val (.int (1 : Int32)), .val (.int (1 : Int32))] [])) _
          refine XS.iconst X17.here hx rfl (hb hby at_97) ?_
          show Steps p.tables e below (T17.setTop (mkF m 98 #[.val (.int p0_0), .val (.int ((p0_0 &&& (2147483647 : Int32)) % (5 : Int32))), .val (.ref u_BAD_REQUEST), .val (.int (1 : Int32)), .val (.int (1 : Int32))] [(.int (1 : Int32))])) _
          refine XS.goto X17.here hx rfl (pc0 := 98) (pc' := 102) rfl (hb hby at_98) (by decide) (by decide) ?_
          exact k
        obtain ⟨fs, hr, hrun, hended, hW, hsame⟩ := X17.leave (v := some (.int (1 : Int32))) (fun h => by rw [Bd.returns] at h; cases h)
        refine ⟨_, _, k18 _ ?_, hrun, hended, _, _, rfl, ?_, ⟨_, rfl⟩, hW, hsame.mono (by decide) (by decide)⟩
        · exact retN X17 hx (t := .boolean) Bd.returns (by simp) (hb hby at_102) hr
        · show Q0 Z p0_0 u_DELETED u_CONFLICT u_CONFLICT_status u_NOT_FOUND u_STORE_ERROR u_STORE_ERROR_status u_BAD_REQUEST u_BAD_REQUEST_status h0 n0 _ T17.heap _
          rw [eh17]
          exact ⟨rfl, N17⟩
      · skip
        have k19 : ∀ t, Steps p.tables e below (s₁.setTop (mkF m 50 #[.val (.int p0_0), .val (.int ((p0_0 &&& (2147483647 : Int32)) % (5 : Int32))), .unset, .unset, .unset] [(.int (3 : Int32)), (.int ((p0_0 &&& (2147483647 : Int32)) % (5 : Int32)))])) t → Steps p.tables e below (s₁.setTop (entryFrame m #[(.int p0_0)] maxLocals)) t := by
          intro t k
          refine k13 t ?_
          show Steps p.tables e below (s₁.setTop (mkF m 36 #[.val (.int p0_0), .val (.int ((p0_0 &&& (2147483647 : Int32)) % (5 : Int32))), .unset, .unset, .unset] [(.int (2 : Int32)), (.int ((p0_0 &&& (2147483647 : Int32)) % (5 : Int32)))])) _
          refine XS.icmpYes X0.here hx rfl (pc0 := 36) (pc' := 48) rfl (hb hby at_36) rfl (feq hc36_14).2 (by decide) (by decide) ?_
          show Steps p.tables e below (s₁.setTop (mkF m 48 #[.val (.int p0_0), .val (.int ((p0_0 &&& (2147483647 : Int32)) % (5 : Int32))), .unset, .unset, .unset] [])) _
          refine XS.iloadN X0.here hx rfl (hb hby at_48) rfl ?_
          show Steps p.tables e below (s₁.setTop (mkF m 49 #[.val (.int p0_0), .val (.int ((p0_0 &&& (2147483647 : Int32)) % (5 : Int32))), .unset, .unset, .unset] [(.int ((p0_0 &&& (2147483647 : Int32)) % (5 : Int32)))])) _
          refine XS.iconst X0.here hx rfl (hb hby at_49) ?_
          exact k
        by_cases hc50_20 : ((p0_0 &&& (2147483647 : Int32)) % (5 : Int32)) = (3 : Int32)
        · skip
          obtain ⟨T21, X21, e21, st21⟩ := getS2 X0 hx hZ hown (host := "") (Or.inl (hw _ (List.mem_of_getElem? (i := 16) rfl))) Via.refl e0 S_CONFLICT (g := (mkF m 53 #[.val (.int p0_0), .val (.int ((p0_0 &&& (2147483647 : Int32)) % (5 : Int32))), .unset, .unset, .unset] [])) rfl (hb hby at_53)
          obtain ⟨cq22, kq22, q22a, q22b, q22c⟩ := isOf hZ e21 E_u_CONFLICT
          obtain ⟨_, _, ⟨T22, L22, k22, n22⟩, -, X22, ⟨Lc22, hQ22, l22, y22, z22⟩, st22⟩ := X21.virtualBack hx (y := (⟨"com/example/batchrake/batchrake/Outcome", "isFailure", "()Z"⟩ : MethodName)) (z := (⟨"com/example/batchrake/batchrake/Outcome", "isFailure", "()Z"⟩ : MethodName)) hown (mvT hZ (hw _ (List.mem_of_getElem? (i := 4) rfl))) (mvT hZ (hw _ (List.mem_of_getElem? (i := 5) rfl))) (notFace_of_selects (args := #[]) (mvT hZ (hw _ (List.mem_of_getElem? (i := 7) rfl)))) (mvT hZ (hw _ (List.mem_of_getElem? (i := 7) rfl))) (mvT hZ (hw _ (List.mem_of_getElem? (i := 6) rfl))) (by decide) (backOf (W := 0) (rm2 l Z a0 hw [] u_CONFLICT u_CONFLICT_status h0 n0 Z0 F_u_CONFLICT_status) hZ (hw _ (List.mem_of_getElem? (i := 8) rfl)) (hw _ (List.mem_of_getElem? (i := 2) rfl)) (by decide) (by decide)) q22a q22c (g := (mkF m 69 #[.val (.int p0_0), .val (.int ((p0_0 &&& (2147483647 : Int32)) % (5 : Int32))), .val (.ref u_CONFLICT), .val (.int (1 : Int32)), .unset] [(.ref u_CONFLICT)])) rfl (by rw [hml]; rfl) (Steps.refl _) (argsL := []) (rest := []) (lenOf pd_0 rfl) rfl (by show 2 * 0 + _ ≤ _; exact Nat.le_of_eq rfl) (hb hby at_69) (fun _ _ => ⟨rfl, e21, (by decide : 0 + 0 ≤ _), (by decide : 0 + 0 ≤ _)⟩)
          dsimp only [Pt.U, Pt.locs, Pt.cells, Pt.slots] at X22 l22 y22 z22 st22 hQ22
          subst l22 y22 z22
          obtain ⟨rfl, N22q, eh22⟩ := hQ22
          have N22 := Fr.app N0 N22q
          obtain ⟨cq23, kq23, q23a, q23b, q23c⟩ := isOf hZ eh22 E_u_CONFLICT
          obtain ⟨_, _, ⟨T23, L23, k23, n23⟩, -, X23, ⟨Lc23, hQ23, l23, y23, z23⟩, st23⟩ := X22.virtualBack hx (y := (⟨"com/example/batchrake/batchrake/Outcome", "status", "()Ljava/lang/String;"⟩ : MethodName)) (z := (⟨"com/example/batchrake/batchrake/Outcome", "status", "()Ljava/lang/String;"⟩ : MethodName)) hown (mvT hZ (hw _ (List.mem_of_getElem? (i := 11) rfl))) (mvT hZ (hw _ (List.mem_of_getElem? (i := 12) rfl))) (notFace_of_selects (args := #[]) (mvT hZ (hw _ (List.mem_of_getElem? (i := 14) rfl)))) (mvT hZ (hw _ (List.mem_of_getElem? (i := 14) rfl))) (mvT hZ (hw _ (List.mem_of_getElem? (i := 13) rfl))) (by decide) (backOf (W := 1) (rm4 l Z a0 hw [] u_CONFLICT u_CONFLICT_status h0 n0 Z0 F_u_CONFLICT_status) hZ (hw _ (List.mem_of_getElem? (i := 15) rfl)) (hw _ (List.mem_of_getElem? (i := 2) rfl)) (by decide) (by decide)) q23a q23c (g := (mkF m 83 #[.val (.int p0_0), .val (.int ((p0_0 &&& (2147483647 : Int32)) % (5 : Int32))), .val (.ref u_CONFLICT), .val (.int (1 : Int32)), .val (.int (1 : Int32))] [(.ref u_CONFLICT), (.int (1 : Int32))])) rfl (by rw [hml]; rfl) (Steps.refl _) (argsL := []) (rest := [(.int (1 : Int32))]) (lenOf pd_1 rfl) rfl (by show 2 * 0 + _ ≤ _; exact Nat.le_of_eq rfl) (hb hby at_83) (fun _ _ => ⟨rfl, eh22, (by decide : 0 + 0 ≤ _), (by decide : 0 + 0 ≤ _)⟩)
          dsimp only [Pt.U, Pt.locs, Pt.cells, Pt.slots] at X23 l23 y23 z23 st23 hQ23
          subst l23 y23 z23
          obtain ⟨rfl, N23q, eh23⟩ := hQ23
          have N23 := Fr.app N22 N23q
          have k24 : ∀ t, Steps p.tables e below (T23.setTop (mkF m 102 #[.val (.int p0_0), .val (.int ((p0_0 &&& (2147483647 : Int32)) % (5 : Int32))), .val (.ref u_CONFLICT), .val (.int (1 : Int32)), .val (.int (1 : Int32))] [(.int (1 : Int32))])) t → Steps p.tables e below (s₁.setTop (entryFrame m #[(.int p0_0)] maxLocals)) t := by
            intro t k
            refine k19 t ?_
            show Steps p.tables e below (s₁.setTop (mkF m 50 #[.val (.int p0_0), .val (.int ((p0_0 &&& (2147483647 : Int32)) % (5 : Int32))), .unset, .unset, .unset] [(.int (3 : Int32)), (.int ((p0_0 &&& (2147483647 : Int32)) % (5 : Int32)))])) _
            refine XS.icmpNo X0.here hx rfl (hb hby at_50) rfl (teq hc50_20).2 ?_
            show Steps p.tables e below (s₁.setTop (mkF m 53 #[.val (.int p0_0), .val (.int ((p0_0 &&& (2147483647 : Int32)) % (5 : Int32))), .unset, .unset, .unset] [])) _
            refine st21 _ ?_
            show Steps p.tables e below (T21.setTop (mkF m 56 #[.val (.int p0_0), .val (.int ((p0_0 &&& (2147483647 : Int32)) % (5 : Int32))), .unset, .unset, .unset] [(.ref u_CONFLICT)])) _
            refine XS.astoreN X21.here hx rfl (hb hby at_56) rfl rfl (l' := #[.val (.int p0_0), .val (.int ((p0_0 &&& (2147483647 : Int32)) % (5 : Int32))), .val (.ref u_CONFLICT), .unset, .unset]) rfl ?_
            show Steps p.tables e below (T21.setTop (mkF m 57 #[.val (.int p0_0), .val (.int ((p0_0 &&& (2147483647 : Int32)) % (5 : Int32))), .val (.ref u_CONFLICT), .unset, .unset] [])) _
            refine XS.iconst X21.here hx rfl (hb hby at_57) ?_
            show Steps p.tables e below (T21.setTop (mkF m 58 #[.val (.int p0_0), .val (.int ((p0_0 &&& (2147483647 : Int32)) % (5 : Int32))), .val (.ref u_CONFLICT), .unset, .unset] [(.int (1 : Int32))])) _
            refine XS.istoreN X21.here hx rfl (hb hby at_58) rfl (l' := #[.val (.int p0_0), .val (.int ((p0_0 &&& (2147483647 : Int32)) % (5 : Int32))), .val (.ref u_CONFLICT), .val (.int (1 : Int32)), .unset]) rfl ?_
            show Steps p.tables e below (T21.setTop (mkF m 59 #[.val (.int p0_0), .val (.int ((p0_0 &&& (2147483647 : Int32)) % (5 : Int32))), .val (.ref u_CONFLICT), .val (.int (1 : Int32)), .unset] [])) _
            refine XS.goto X21.here hx rfl (pc0 := 59) (pc' := 68) rfl (hb hby at_59) (by decide) (by decide) ?_
            show Steps p.tables e below (T21.setTop (mkF m 68 #[.val (.int p0_0), .val (.int ((p0_0 &&& (2147483647 : Int32)) % (5 : Int32))), .val (.ref u_CONFLICT), .val (.int (1 : Int32)), .unset] [])) _
            refine XS.aloadN X21.here hx rfl (hb hby at_68) rfl rfl ?_
            show Steps p.tables e below (T21.setTop (mkF m 69 #[.val (.int p0_0), .val (.int ((p0_0 &&& (2147483647 : Int32)) % (5 : Int32))), .val (.ref u_CONFLICT), .val (.int (1 : Int32)), .unset] [(.ref u_CONFLICT)])) _
            refine st22.trans ?_
            show Steps p.tables e below (T22.setTop (mkF m 72 #[.val (.int p0_0), .val (.int ((p0_0 &&& (2147483647 : Int32)) % (5 : Int32))), .val (.ref u_CONFLICT), .val (.int (1 : Int32)), .unset] [(.int (1 : Int32))])) _
            refine XS.istore X22.here hx rfl (hb hby at_72) rfl (l' := #[.val (.int p0_0), .val (.int ((p0_0 &&& (2147483647 : Int32)) % (5 : Int32))), .val (.ref u_CONFLICT), .val (.int (1 : Int32)), .val (.int (1 : Int32))]) rfl ?_
            show Steps p.tables e below (T22.setTop (mkF m 74 #[.val (.int p0_0), .val (.int ((p0_0 &&& (2147483647 : Int32)) % (5 : Int32))), .val (.ref u_CONFLICT), .val (.int (1 : Int32)), .val (.int (1 : Int32))] [])) _
            refine XS.iload X22.here hx rfl (hb hby at_74) rfl ?_
            show Steps p.tables e below (T22.setTop (mkF m 76 #[.val (.int p0_0), .val (.int ((p0_0 &&& (2147483647 : Int32)) % (5 : Int32))), .val (.ref u_CONFLICT), .val (.int (1 : Int32)), .val (.int (1 : Int32))] [(.int (1 : Int32))])) _
            refine XS.iloadN X22.here hx rfl (hb hby at_76) rfl ?_
            show Steps p.tables e below (T22.setTop (mkF m 77 #[.val (.int p0_0), .val (.int ((p0_0 &&& (2147483647 : Int32)) % (5 : Int32))), .val (.ref u_CONFLICT), .val (.int (1 : Int32)), .val (.int (1 : Int32))] [(.int (1 : Int32)), (.int (1 : Int32))])) _
            refine XS.icmpNo X22.here hx rfl (hb hby at_77) rfl (teq (by decide : (1 : Int32) = (1 : Int32))).2 ?_
            show Steps p.tables e below (T22.setTop (mkF m 80 #[.val (.int p0_0), .val (.int ((p0_0 &&& (2147483647 : Int32)) % (5 : Int32))), .val (.ref u_CONFLICT), .val (.int (1 : Int32)), .val (.int (1 : Int32))] [])) _
            refine XS.iload X22.here hx rfl (hb hby at_80) rfl ?_
            show Steps p.tables e below (T22.setTop (mkF m 82 #[.val (.int p0_0), .val (.int ((p0_0 &&& (2147483647 : Int32)) % (5 : Int32))), .val (.ref u_CONFLICT), .val (.int (1 : Int32)), .val (.int (1 : Int32))] [(.int (1 : Int32))])) _
            refine XS.aloadN X22.here hx rfl (hb hby at_82) rfl rfl ?_
            show Steps p.tables e below (T22.setTop (mkF m 83 #[.val (.int p0_0), .val (.int ((p0_0 &&& (2147483647 : Int32)) % (5 : Int32))), .val (.ref u_CONFLICT), .val (.int (1 : Int32)), .val (.int (1 : Int32))] [(.ref u_CONFLICT), (.int (1 : Int32))])) _
            refine st23.trans ?_
            show Steps p.tables e below (T23.setTop (mkF m 86 #[.val (.int p0_0), .val (.int ((p0_0 &&& (2147483647 : Int32)) % (5 : Int32))), .val (.ref u_CONFLICT), .val (.int (1 : Int32)), .val (.int (1 : Int32))] [(.ref u_CONFLICT_status), (.int (1 : Int32))])) _
            refine XS.ifnullNo X23.here hx rfl (hb hby at_86) rfl ?_
            show Steps p.tables e below (T23.setTop (mkF m 89 #[.val (.int p0_0), .val (.int ((p0_0 &&& (2147483647 : Int32)) % (5 : Int32))), .val (.ref u_CONFLICT), .val (.int (1 : Int32)), .val (.int (1 : Int32))] [(.int (1 : Int32))])) _
            refine XS.iconst X23.here hx rfl (hb hby at_89) ?_
            show Steps p.tables e below (T23.setTop (mkF m 90 #[.val (.int p0_0), .val (.int ((p0_0 &&& (2147483647 : Int32)) % (5 : Int32))), .val (.ref u_CONFLICT), .val (.int (1 : Int32)), .val (.int (1 : Int32))] [(.int (1 : Int32)), (.int (1 : Int32))])) _
            refine XS.goto X23.here hx rfl (pc0 := 90) (pc' := 94) rfl (hb hby at_90) (by decide) (by decide) ?_
            show Steps p.tables e below (T23.setTop (mkF m 94 #[.val (.int p0_0), .val (.int ((p0_0 &&& (2147483647 : Int32)) % (5 : Int32))), .val (.ref u_CONFLICT), .val (.int (1 : Int32)), .val (.int (1 : Int32))] [(.int (1 : Int32)), (.int (1 : Int32))])) _
            refine XS.icmpNo X23.here hx rfl (hb hby at_94) rfl (teq (by decide : (1 : Int32) = (1 : Int32))).2 ?_
            show Steps p.tables e below (T23.setTop (mkF m 97 #[.val (.int p0_0), .val (.int ((p0_0 &&& (2147483647 : Int32)) % (5 : Int32))), .val (.ref u_CONFLICT), .val (.int (1 : Int32)), .val (.int (1 : Int32))] [])) _
            refine XS.iconst X23.here hx rfl (hb hby at_97) ?_
            show Steps p.tables e below (T23.setTop (mkF m 98 #[.val (.int p0_0), .val (.int ((p0_0 &&& (2147483647 : Int32)) % (5 : Int32))), .val (.ref u_CONFLICT), .val (.int (1 : Int32)), .val (.int (1 : Int32))] [(.int (1 : Int32))])) _
            refine XS.goto X23.here hx rfl (pc0 := 98) (pc' := 102) rfl (hb hby at_98) (by decide) (by decide) ?_
            exact k
          obtain ⟨fs, hr, hrun, hended, hW, hsame⟩ := X23.leave (v := some (.int (1 : Int32))) (fun h => by rw [Bd.returns] at h; cases h)
          refine ⟨_, _, k24 _ ?_, hrun, hended, _, _, rfl, ?_, ⟨_, rfl⟩, hW, hsame.mono (by decide) (by decide)⟩
          · exact retN X23 hx (t := .boolean) Bd.returns (by simp) (hb hby at_102) hr
          · show Q0 Z p0_0 u_DELETED u_CONFLICT u_CONFLICT_status u_NOT_FOUND u_STORE_ERROR u_STORE_ERROR_status u_BAD_REQUEST u_BAD_REQUEST_status h0 n0 _ T23.heap _
            rw [eh23]
            exact ⟨rfl, N23⟩
        · skip
          obtain ⟨T25, X25, e25, st25⟩ := getS2 X0 hx hZ hown (host := "") (Or.inl (hw _ (List.mem_of_getElem? (i := 20) rfl))) Via.refl e0 S_STORE_ERROR (g := (mkF m 62 #[.val (.int p0_0), .val (.int ((p0_0 &&& (2147483647 : Int32)) % (5 : Int32))), .unset, .unset, .unset] [])) rfl (hb hby at_62)
          obtain ⟨cq26, kq26, q26a, q26b, q26c⟩ := isOf hZ e25 E_u_STORE_ERROR
          obtain ⟨_, _, ⟨T26, L26, k26, n26⟩, -, X26, ⟨Lc26, hQ26, l26, y26, z26⟩, st26⟩ := X25.virtualBack hx (y := (⟨"com/example/batchrake/batchrake/Outcome", "isFailure", "()Z"⟩ : MethodName)) (z := (⟨"com/example/batchrake/batchrake/Outcome", "isFailure", "()Z"⟩ : MethodName)) hown (mvT hZ (hw _ (List.mem_of_getElem? (i := 4) rfl))) (mvT hZ (hw _ (List.mem_of_getElem? (i := 5) rfl))) (notFace_of_selects (args := #[]) (mvT hZ (hw _ (List.mem_of_getElem? (i := 7) rfl)))) (mvT hZ (hw _ (List.mem_of_getElem? (i := 7) rfl))) (mvT hZ (hw _ (List.mem_of_getElem? (i := 6) rfl))) (by decide) (backOf (W := 0) (rm2 l Z a0 hw [] u_STORE_ERROR u_STORE_ERROR_status h0 n0 Z0 F_u_STORE_ERROR_status) hZ (hw _ (List.mem_of_getElem? (i := 8) rfl)) (hw _ (List.mem_of_getElem? (i := 2) rfl)) (by decide) (by decide)) q26a q26c (g := (mkF m 69 #[.val (.int p0_0), .val (.int ((p0_0 &&& (2147483647 : Int32)) % (5 : Int32))), .val (.ref u_STORE_ERROR), .val (.int (1 : Int32)), .unset] [(.ref u_STORE_ERROR)])) rfl (by rw [hml]; rfl) (Steps.refl _) (argsL := []) (rest := []) (lenOf pd_0 rfl) rfl (by show 2 * 0 + _ ≤ _; exact Nat.le_of_eq rfl) (hb hby at_69) (fun _ _ => ⟨rfl, e25, (by decide : 0 + 0 ≤ _), (by decide : 0 + 0 ≤ _)⟩)
          dsimp only [Pt.U, Pt.locs, Pt.cells, Pt.slots] at X26 l26 y26 z26 st26 hQ26
          subst l26 y26 z26
          obtain ⟨rfl, N26q, eh26⟩ := hQ26
          have N26 := Fr.app N0 N26q
          obtain ⟨cq27, kq27, q27a, q27b, q27c⟩ := isOf hZ eh26 E_u_STORE_ERROR
          obtain ⟨_, _, ⟨T27, L27, k27, n27⟩, -, X27, ⟨Lc27, hQ27, l27, y27, z27⟩, st27⟩ := X26.virtualBack hx (y := (⟨"com/example/batchrake/batchrake/Outcome", "status", "()Ljava/lang/String;"⟩ : MethodName)) (z := (⟨"com/example/batchrake/batchrake/Outcome", "status", "()Ljava/lang/String;"⟩ : MethodName)) hown (mvT hZ (hw _ (List.mem_of_getElem? (i := 11) rfl))) (mvT hZ (hw _ (List.mem_of_getElem? (i := 12) rfl))) (notFace_of_selects (args := #[]) (mvT hZ (hw _ (List.mem_of_getElem? (i := 14) rfl)))) (mvT hZ (hw _ (List.mem_of_getElem? (i := 14) rfl))) (mvT hZ (hw _ (List.mem_of_getElem? (i := 13) rfl))) (by decide) (backOf (W := 1) (rm4 l Z a0 hw [] u_STORE_ERROR u_STORE_ERROR_status h0 n0 Z0 F_u_STORE_ERROR_status) hZ (hw _ (List.mem_of_getElem? (i := 15) rfl)) (hw _ (List.mem_of_getElem? (i := 2) rfl)) (by decide) (by decide)) q27a q27c (g := (mkF m 83 #[.val (.int p0_0), .val (.int ((p0_0 &&& (2147483647 : Int32)) % (5 : Int32))), .val (.ref u_STORE_ERROR), .val (.int (1 : Int32)), .val (.int (1 : Int32))] [(.ref u_STORE_ERROR), (.int (1 : Int32))])) rfl (by rw [hml]; rfl) (Steps.refl _) (argsL := []) (rest := [(.int (1 : Int32))]) (lenOf pd_1 rfl) rfl (by show 2 * 0 + _ ≤ _; exact Nat.le_of_eq rfl) (hb hby at_83) (fun _ _ => ⟨rfl, eh26, (by decide : 0 + 0 ≤ _), (by decide : 0 + 0 ≤ _)⟩)
          dsimp only [Pt.U, Pt.locs, Pt.cells, Pt.slots] at X27 l27 y27 z27 st27 hQ27
          subst l27 y27 z27
          obtain ⟨rfl, N27q, eh27⟩ := hQ27
          have N27 := Fr.app N26 N27q
          have k28 : ∀ t, Steps p.tables e below (T27.setTop (mkF m 102 #[.val (.int p0_0), .val (.int ((p0_0 &&& (2147483647 : Int32)) % (5 : Int32))), .val (.ref u_STORE_ERROR), .val (.int (1 : Int32)), .val (.int (1 : Int32))] [(.int (1 : Int32))])) t → Steps p.tables e below (s₁.setTop (entryFrame m #[(.int p0_0)] maxLocals)) t := by
            intro t k
            refine k19 t ?_
            show Steps p.tables e below (s₁.setTop (mkF m 50 #[.val (.int p0_0), .val (.int ((p0_0 &&& (2147483647 : Int32)) % (5 : Int32))), .unset, .unset, .unset] [(.int (3 : Int32)), (.int ((p0_0 &&& (2147483647 : Int32)) % (5 : Int32)))])) _
            refine XS.icmpYes X0.here hx rfl (pc0 := 50) (pc' := 62) rfl (hb hby at_50) rfl (feq hc50_20).2 (by decide) (by decide) ?_
            show Steps p.tables e below (s₁.setTop (mkF m 62 #[.val (.int p0_0), .val (.int ((p0_0 &&& (2147483647 : Int32)) % (5 : Int32))), .unset, .unset, .unset] [])) _
            refine st25 _ ?_
            show Steps p.tables e below (T25.setTop (mkF m 65 #[.val (.int p0_0), .val (.int ((p0_0 &&& (2147483647 : Int32)) % (5 : Int32))), .unset, .unset, .unset] [(.ref u_STORE_ERROR)])) _
            refine XS.astoreN X25.here hx rfl (hb hby at_65) rfl rfl (l' := #[.val (.int p0_0), .val (.int ((p0_0 &&& (2147483647 : Int32)) % (5 : Int32))), .val (.ref u_STORE_ERROR), .unset, .unset]) rfl ?_
            show Steps p.tables e below (T25.setTop (mkF m 66 #[.val (.int p0_0), .val (.int ((p0_0 &&& (2147483647 : Int32)) % (5 : Int32))), .val (.ref u_STORE_ERROR), .unset, .unset] [])) _
            refine XS.iconst X25.here hx rfl (hb hby at_66) ?_
            show Steps p.tables e below (T25.setTop (mkF m 67 #[.val (.int p0_0), .val (.int ((p0_0 &&& (2147483647 : Int32)) % (5 : Int32))), .val (.ref u_STORE_ERROR), .unset, .unset] [(.int (1 : Int32))])) _
            refine XS.istoreN X25.here hx rfl (hb hby at_67) rfl (l' := #[.val (.int p0_0), .val (.int ((p0_0 &&& (2147483647 : Int32)) % (5 : Int32))), .val (.ref u_STORE_ERROR), .val (.int (1 : Int32)), .unset]) rfl ?_
            show Steps p.tables e below (T25.setTop (mkF m 68 #[.val (.int p0_0), .val (.int ((p0_0 &&& (2147483647 : Int32)) % (5 : Int32))), .val (.ref u_STORE_ERROR), .val (.int (1 : Int32)), .unset] [])) _
            refine XS.aloadN X25.here hx rfl (hb hby at_68) rfl rfl ?_
            show Steps p.tables e below (T25.setTop (mkF m 69 #[.val (.int p0_0), .val (.int ((p0_0 &&& (2147483647 : Int32)) % (5 : Int32))), .val (.ref u_STORE_ERROR), .val (.int (1 : Int32)), .unset] [(.ref u_STORE_ERROR)])) _
            refine st26.trans ?_
            show Steps p.tables e below (T26.setTop (mkF m 72 #[.val (.int p0_0), .val (.int ((p0_0 &&& (2147483647 : Int32)) % (5 : Int32))), .val (.ref u_STORE_ERROR), .val (.int (1 : Int32)), .unset] [(.int (1 : Int32))])) _
            refine XS.istore X26.here hx rfl (hb hby at_72) rfl (l' := #[.val (.int p0_0), .val (.int ((p0_0 &&& (2147483647 : Int32)) % (5 : Int32))), .val (.ref u_STORE_ERROR), .val (.int (1 : Int32)), .val (.int (1 : Int32))]) rfl ?_
            show Steps p.tables e below (T26.setTop (mkF m 74 #[.val (.int p0_0), .val (.int ((p0_0 &&& (2147483647 : Int32)) % (5 : Int32))), .val (.ref u_STORE_ERROR), .val (.int (1 : Int32)), .val (.int (1 : Int32))] [])) _
            refine XS.iload X26.here hx rfl (hb hby at_74) rfl ?_
            show Steps p.tables e below (T26.setTop (mkF m 76 #[.val (.int p0_0), .val (.int ((p0_0 &&& (2147483647 : Int32)) % (5 : Int32))), .val (.ref u_STORE_ERROR), .val (.int (1 : Int32)), .val (.int (1 : Int32))] [(.int (1 : Int32))])) _
            refine XS.iloadN X26.here hx rfl (hb hby at_76) rfl ?_
            show Steps p.tables e below (T26.setTop (mkF m 77 #[.val (.int p0_0), .val (.int ((p0_0 &&& (2147483647 : Int32)) % (5 : Int32))), .val (.ref u_STORE_ERROR), .val (.int (1 : Int32)), .val (.int (1 : Int32))] [(.int (1 : Int32)), (.int (1 : Int32))])) _
            refine XS.icmpNo X26.here hx rfl (hb hby at_77) rfl (teq (by decide : (1 : Int32) = (1 : Int32))).2 ?_
            show Steps p.tables e below (T26.setTop (mkF m 80 #[.val (.int p0_0), .val (.int ((p0_0 &&& (2147483647 : Int32)) % (5 : Int32))), .val (.ref u_STORE_ERROR), .val (.int (1 : Int32)), .val (.int (1 : Int32))] [])) _
            refine XS.iload X26.here hx rfl (hb hby at_80) rfl ?_
            show Steps p.tables e below (T26.setTop (mkF m 82 #[.val (.int p0_0), .val (.int ((p0_0 &&& (2147483647 : Int32)) % (5 : Int32))), .val (.ref u_STORE_ERROR), .val (.int (1 : Int32)), .val (.int (1 : Int32))] [(.int (1 : Int32))])) _
            refine XS.aloadN X26.here hx rfl (hb hby at_82) rfl rfl ?_
            show Steps p.tables e below (T26.setTop (mkF m 83 #[.val (.int p0_0), .val (.int ((p0_0 &&& (2147483647 : Int32)) % (5 : Int32))), .val (.ref u_STORE_ERROR), .val (.int (1 : Int32)), .val (.int (1 : Int32))] [(.ref u_STORE_ERROR), (.int (1 : Int32))])) _
            refine st27.trans ?_
            show Steps p.tables e below (T27.setTop (mkF m 86 #[.val (.int p0_0), .val (.int ((p0_0 &&& (2147483647 : Int32)) % (5 : Int32))), .val (.ref u_STORE_ERROR), .val (.int (1 : Int32)), .val (.int (1 : Int32))] [(.ref u_STORE_ERROR_status), (.int (1 : Int32))])) _
            refine XS.ifnullNo X27.here hx rfl (hb hby at_86) rfl ?_
            show Steps p.tables e below (T27.setTop (mkF m 89 #[.val (.int p0_0), .val (.int ((p0_0 &&& (2147483647 : Int32)) % (5 : Int32))), .val (.ref u_STORE_ERROR), .val (.int (1 : Int32)), .val (.int (1 : Int32))] [(.int (1 : Int32))])) _
            refine XS.iconst X27.here hx rfl (hb hby at_89) ?_
            show Steps p.tables e below (T27.setTop (mkF m 90 #[.val (.int p0_0), .val (.int ((p0_0 &&& (2147483647 : Int32)) % (5 : Int32))), .val (.ref u_STORE_ERROR), .val (.int (1 : Int32)), .val (.int (1 : Int32))] [(.int (1 : Int32)), (.int (1 : Int32))])) _
            refine XS.goto X27.here hx rfl (pc0 := 90) (pc' := 94) rfl (hb hby at_90) (by decide) (by decide) ?_
            show Steps p.tables e below (T27.setTop (mkF m 94 #[.val (.int p0_0), .val (.int ((p0_0 &&& (2147483647 : Int32)) % (5 : Int32))), .val (.ref u_STORE_ERROR), .val (.int (1 : Int32)), .val (.int (1 : Int32))] [(.int (1 : Int32)), (.int (1 : Int32))])) _
            refine XS.icmpNo X27.here hx rfl (hb hby at_94) rfl (teq (by decide : (1 : Int32) = (1 : Int32))).2 ?_
            show Steps p.tables e below (T27.setTop (mkF m 97 #[.val (.int p0_0), .val (.int ((p0_0 &&& (2147483647 : Int32)) % (5 : Int32))), .val (.ref u_STORE_ERROR), .val (.int (1 : Int32)), .val (.int (1 : Int32))] [])) _
            refine XS.iconst X27.here hx rfl (hb hby at_97) ?_
            show Steps p.tables e below (T27.setTop (mkF m 98 #[.val (.int p0_0), .val (.int ((p0_0 &&& (2147483647 : Int32)) % (5 : Int32))), .val (.ref u_STORE_ERROR), .val (.int (1 : Int32)), .val (.int (1 : Int32))] [(.int (1 : Int32))])) _
            refine XS.goto X27.here hx rfl (pc0 := 98) (pc' := 102) rfl (hb hby at_98) (by decide) (by decide) ?_
            exact k
          obtain ⟨fs, hr, hrun, hended, hW, hsame⟩ := X27.leave (v := some (.int (1 : Int32))) (fun h => by rw [Bd.returns] at h; cases h)
          refine ⟨_, _, k28 _ ?_, hrun, hended, _, _, rfl, ?_, ⟨_, rfl⟩, hW, hsame.mono (by decide) (by decide)⟩
          · exact retN X27 hx (t := .boolean) Bd.returns (by simp) (hb hby at_102) hr
          · show Q0 Z p0_0 u_DELETED u_CONFLICT u_CONFLICT_status u_NOT_FOUND u_STORE_ERROR u_STORE_ERROR_status u_BAD_REQUEST u_BAD_REQUEST_status h0 n0 _ T27.heap _
            rw [eh27]
            exact ⟨rfl, N27⟩
set_option maxRecDepth 65536 in
set_option maxHeartbeats 40000000 in
theorem comes_1 {Post : Tables → Env → Array Value → State → Outcome → State → Prop} (hpost : ∀ tb e args s v u, (limb_1_1.after args s (.returned v) u = true ∧ limb_1_2.after args s (.returned v) u = true ∧ True) → FrameEnd s (.returned v) u (Jvm.fieldLocs frame_1_writes args s ++ Jvm.arrayLocs frame_1_arrays args s ++ Jvm.staticLocs frame_1_statics s) 0 0 → Post tb e args s (.returned v) u) :
    ArmFor flags0 classFile x code maxLocals ret World_1 tables_1 room_1 Calls_1 rest_1 Pre_1 Post := by
  intro l hfl _ _ p e ha hc hk s m args below hf hA hF happ hP
  obtain ⟨hcalls, hrest, hpre⟩ := hP
  obtain ⟨-, -, -, hnamed, -, -, -, hat⟩ := (Spec.applies_iff hf).mp happ
  obtain ⟨hg, hn⟩ := and_e (Cond.before_iff.mp (show (Jvm.Cond.and given_1 narrow_1).before args s = true from hpre))
  obtain ⟨gv1, gv2⟩ := and_e hg
  obtain ⟨w0, rfl⟩ : ∃ w0 : Value, args = #[w0] := by
    have hs : args.size = 1 := by simpa [Cond.value, given_1] using gv1
    obtain ⟨L⟩ := args
    match L, hs with
    | [w0], _ => exact ⟨w0, rfl⟩
  have hw := fun d (hd : d ∈ tables_1) => atoms_spec (ws := Jvm.Cond.code x code maxLocals ret :: tables_1) hat d (List.mem_cons_of_mem _ hd)
  have hfit : Fit s := fun {y c} hc i hi => by
    obtain ⟨ha, rfl⟩ := Array.getElem?_eq_some_iff.mp hc
    have q := List.all_eq_true.mp ((Array.all_eq_true_iff_forall_mem.mp hF) _ (Array.getElem_mem ha)) i (List.mem_range.mpr hi)
    simpa [Array.getElem?_eq_getElem hi] using q
  obtain ⟨i0, ei0⟩ := is_v gv2
  obtain rfl : w0 = (.int i0) := Option.some.inj ei0
  obtain ⟨nv1, nv2⟩ := and_e hn
  obtain ⟨nv3, nv4⟩ := and_e nv2
  obtain ⟨nv5, nv6⟩ := and_e nv4
  obtain ⟨nv7, nv8⟩ := and_e nv6
  obtain ⟨nv9, nv10⟩ := and_e nv8
  obtain ⟨nv11, nv12⟩ := and_e nv10
  obtain ⟨nv13, nv14⟩ := and_e nv12
  obtain ⟨nv15, nv16⟩ := and_e nv14
  obtain ⟨nv17, nv18⟩ := and_e nv16
  obtain ⟨u_DELETED, ev_u_DELETED, E_u_DELETED⟩ := own_ex nv1
  have S_DELETED : Sta s s.heap "com/example/batchrake/batchrake/Outcome" "DELETED" "Lcom/example/batchrake/batchrake/Outcome;" (.ref u_DELETED) := Sta.start ev_u_DELETED (Or.inr ⟨(hw _ (List.mem_of_getElem? (i := 2) rfl)), (hw _ (List.mem_of_getElem? (i := 3) rfl))⟩)
  have e_1 := null_v nv3
  have F_u_DELETED_status : Fld s s.heap u_DELETED "com/example/batchrake/batchrake/Outcome" "status" "Ljava/lang/String;" .null := own_fldV ev_u_DELETED e_1
  obtain ⟨u_CONFLICT, ev_u_CONFLICT, E_u_CONFLICT⟩ := own_ex nv5
  have S_CONFLICT : Sta s s.heap "com/example/batchrake/batchrake/Outcome" "CONFLICT" "Lcom/example/batchrake/batchrake/Outcome;" (.ref u_CONFLICT) := Sta.start ev_u_CONFLICT (Or.inr ⟨(hw _ (List.mem_of_getElem? (i := 2) rfl)), (hw _ (List.mem_of_getElem? (i := 17) rfl))⟩)
  obtain ⟨u_CONFLICT_status, ev_u_CONFLICT_status, E_u_CONFLICT_status⟩ := own_ex nv7
  have F_u_CONFLICT_status : Fld s s.heap u_CONFLICT "com/example/batchrake/batchrake/Outcome" "status" "Ljava/lang/String;" (.ref u_CONFLICT_status) := own_fldV ev_u_CONFLICT ev_u_CONFLICT_status
  obtain ⟨u_NOT_FOUND, ev_u_NOT_FOUND, E_u_NOT_FOUND⟩ := own_ex nv9
  have S_NOT_FOUND : Sta s s.heap "com/example/batchrake/batchrake/Outcome" "NOT_FOUND" "Lcom/example/batchrake/batchrake/Outcome;" (.ref u_NOT_FOUND) := Sta.start ev_u_NOT_FOUND (Or.inr ⟨(hw _ (List.mem_of_getElem? (i := 2) rfl)), (hw _ (List.mem_of_getElem? (i := 19) rfl))⟩)
  have e_2 := null_v nv11
  have F_u_NOT_FOUND_status : Fld s s.heap u_NOT_FOUND "com/example/batchrake/batchrake/Outcome" "status" "Ljava/lang/String;" .null := own_fldV ev_u_NOT_FOUND e_2
  obtain ⟨u_STORE_ERROR, ev_u_STORE_ERROR, E_u_STORE_ERROR⟩ := own_ex nv13
  have S_STORE_ERROR : Sta s s.heap "com/example/batchrake/batchrake/Outcome" "STORE_ERROR" "Lcom/example/batchrake/batchrake/Outcome;" (.ref u_STORE_ERROR) := Sta.start ev_u_STORE_ERROR (Or.inr ⟨(hw _ (List.mem_of_getElem? (i := 2) rfl)), (hw _ (List.mem_of_getElem? (i := 21) rfl))⟩)
  obtain ⟨u_STORE_ERROR_status, ev_u_STORE_ERROR_status, E_u_STORE_ERROR_status⟩ := own_ex nv15
  have F_u_STORE_ERROR_status : Fld s s.heap u_STORE_ERROR "com/example/batchrake/batchrake/Outcome" "status" "Ljava/lang/String;" (.ref u_STORE_ERROR_status) := own_fldV ev_u_STORE_ERROR ev_u_STORE_ERROR_status
  obtain ⟨u_BAD_REQUEST, ev_u_BAD_REQUEST, E_u_BAD_REQUEST⟩ := own_ex nv17
  have S_BAD_REQUEST : Sta s s.heap "com/example/batchrake/batchrake/Outcome" "BAD_REQUEST" "Lcom/example/batchrake/batchrake/Outcome;" (.ref u_BAD_REQUEST) := Sta.start ev_u_BAD_REQUEST (Or.inr ⟨(hw _ (List.mem_of_getElem? (i := 2) rfl)), (hw _ (List.mem_of_getElem? (i := 23) rfl))⟩)
  obtain ⟨u_BAD_REQUEST_status, ev_u_BAD_REQUEST_status, E_u_BAD_REQUEST_status⟩ := own_ex nv18
  have F_u_BAD_REQUEST_status : Fld s s.heap u_BAD_REQUEST "com/example/batchrake/batchrake/Outcome" "status" "Ljava/lang/String;" (.ref u_BAD_REQUEST_status) := own_fldV ev_u_BAD_REQUEST ev_u_BAD_REQUEST_status
  obtain ⟨n, o, h1, h2, h3, _, L, rfl, ⟨rfl, N⟩, hq⟩ := rm0 l s _ hw tables_1 i0 u_DELETED u_CONFLICT u_CONFLICT_status u_NOT_FOUND u_STORE_ERROR u_STORE_ERROR_status u_BAD_REQUEST u_BAD_REQUEST_status s.heap s.heap.size (Nat.le_refl _) S_DELETED E_u_DELETED F_u_DELETED_status S_CONFLICT E_u_CONFLICT F_u_CONFLICT_status E_u_CONFLICT_status S_NOT_FOUND E_u_NOT_FOUND F_u_NOT_FOUND_status S_STORE_ERROR E_u_STORE_ERROR F_u_STORE_ERROR_status E_u_STORE_ERROR_status S_BAD_REQUEST E_u_BAD_REQUEST F_u_BAD_REQUEST_status E_u_BAD_REQUEST_status p e ha hc hk s m _ below hf ((Spec.applies_iff_loose hf).mp happ).1 ⟨rfl, State.Warmed39.refl s, rfl⟩ trivial
  refine ⟨n, _, h1, h2, h3, hpost _ _ _ _ _ _ ⟨Cond.after_iff.mpr rfl, Cond.after_iff.mpr (eq_i res_at (Term.int_eval (1)) rfl), trivial⟩ ⟨hq.1, hq.2.1, (hq.2.2.sift fun y hy => Or.inr (N y hy)).mono (by decide) (by decide)⟩⟩
theorem main_1_1 : Claimed_1_1 := comes_1 fun _ _ _ _ _ _ h hF => ⟨h.1, hF⟩
theorem main_1_2 : Claimed_1_2 := comes_1 fun _ _ _ _ _ _ h hF => ⟨h.2.1, hF⟩
end Jvm.Pilot.@@N@@
namespace Jvm.Pilot.@@N@@
open Jvm Jvm.ClassFile Sem Op Lib Jvm.Free Jvm.Stand Jvm.Pilot.@@N@@.Jvm.D
/-! MADE BY PROGRAM (witnessworld.py) out of the Statement's table words and the real class files: 15 classes; the members and pool entries that the words name. The judged class is class 1, her method 1. -/
namespace start1
open Jvm.ClassFile
def u (s : String) : CpInfo := .utf8 (stringToUtf16 s)
/-- a pool by its gaps: so many unusable entries, then the entry; so many at the end -/
def gap : Nat → List CpInfo → List CpInfo
  | 0, r => r
  | n + 1, r => .unusable :: gap n r
def poolList (es : List (Nat × CpInfo)) (last : Nat) : List CpInfo := es.foldr (fun e r => gap e.1 (e.2 :: r)) (gap last [])
def pool (es : List (Nat × CpInfo)) (last : Nat) : Array CpInfo := ⟨poolList es last⟩
def fileOf (pool : Array CpInfo) (this : Nat) (attrs : Array Attribute := #[]) (ms : Array MethodInfo := #[]) (fl : Nat := 33) (sup : Nat := 0) (ifs : Array Nat := #[]) (fds : Array FieldInfo := #[]) : ClassFile where
  minorVersion := 0
  majorVersion := 65
  constantPool := pool
  accessFlags := fl
  thisClass := this
  superClass := sup
  interfaces := ifs
  fields := fds
  methods := ms
  attributes := attrs
def plain (name : String) (sup : Option ClassId) : Class where
  name := name
  kind := .ordinary
  loader := none
  accessFlags := 33
  super := sup
  interfaces := #[]
  cf := none
  fields := #[]
  methods := #[]
  instanceTypes := #[]
  staticTypes := #[]
  resolved := #[]
  callSites := []
  init := .initialized
  statics := none
  mirror := none

def pool0 : Array CpInfo := pool [(5, u "<init>"), (0, u "()V"), (1, .class_ 10), (1, u "java/lang/Object")] 113

def k0m0 : Method := { name := "<init>", desc := "()V", sig := { parameters := [], returnType := none }, accessFlags := 1, code := none }
/-- java/lang/Object -/
def k0 : Class := { plain "java/lang/Object" none with
  accessFlags := 33
  interfaces := #[]
  cf := some (fileOf pool0 8 #[] #[{ accessFlags := 1, nameIndex := 5, descriptorIndex := 6, attributes := #[] }] 33 0 #[] #[])
  fields := #[]
  methods := #[k0m0]
  instanceTypes := #[]
  staticTypes := #[]
  resolved := Array.replicate 124 none
  statics := none }

def pool1 : Array CpInfo := pool [(2, .class_ 4), (1, u "java/lang/Object"), (0, u "<init>"), (0, u "()V"), (0, .integer 2147483647), (0, .fieldref 9 10), (0, .class_ 11), (0, .nameAndType 12 13), (0, u "com/example/batchrake/batchrake/Outcome"), (0, u "DELETED"), (0, u "Lcom/example/batchrake/batchrake/Outcome;"), (0, .fieldref 9 15), (0, .nameAndType 16 13), (0, u "NOT_FOUND"), (0, .fieldref 9 18), (0, .nameAndType 19 13), (0, u "BAD_REQUEST"), (0, .fieldref 9 21), (0, .nameAndType 22 13), (0, u "CONFLICT"), (0, .fieldref 9 24), (0, .nameAndType 25 13), (0, u "STORE_ERROR"), (0, .methodref 9 27), (0, .nameAndType 28 29), (0, u "isFailure"), (0, u "()Z"), (0, .methodref 9 31), (0, .nameAndType 32 33), (0, u "status"), (0, u "()Ljava/lang/String;"), (0, .class_ 35), (0, u "com/example/batchrake/batchrake/OutcomeIsFailurePinLaw"), (2, u "law"), (0, u "(I)Z")] 3

def k1m0 : Method := { name := "<init>", desc := "()V", sig := { parameters := [], returnType := none }, accessFlags := 1, code := none }
def k1c1 : Code := { maxStack := 2, maxLocals := 5, code := code, exceptionTable := #[], attributes := #[] }
def k1m1 : Method := { name := "law", desc := "(I)Z", sig := { parameters := [.int], returnType := some .boolean }, accessFlags := 9, code := some k1c1 }
/-- com/example/batchrake/batchrake/OutcomeIsFailurePinLaw -/
def k1 : Class := { plain "com/example/batchrake/batchrake/OutcomeIsFailurePinLaw" (some 0) with
  accessFlags := 49
  interfaces := #[]
  cf := some (fileOf pool1 34 #[] #[{ accessFlags := 1, nameIndex := 5, descriptorIndex := 6, attributes := #[] }, { accessFlags := 9, nameIndex := 38, descriptorIndex := 39, attributes := #[] }] 49 2 #[] #[])
  fields := #[]
  methods := #[k1m0, k1m1]
  instanceTypes := #[]
  staticTypes := #[]
  resolved := Array.replicate 43 none
  statics := none }

def pool2 : Array CpInfo := pool [(1, .class_ 2), (0, u "java/lang/constant/Constable"), (0, .class_ 4), (0, u "java/lang/Object")] 6

/-- java/lang/constant/Constable -/
def k2 : Class := { plain "java/lang/constant/Constable" (some 0) with
  accessFlags := 1537
  interfaces := #[]
  cf := some (fileOf pool2 1 #[] #[] 1537 3 #[] #[])
  fields := #[]
  methods := #[]
  instanceTypes := #[]
  staticTypes := #[]
  resolved := Array.replicate 11 none
  statics := none }

def pool3 : Array CpInfo := pool [(1, .class_ 2), (0, u "java/lang/Comparable"), (0, .class_ 4), (0, u "java/lang/Object")] 7

/-- java/lang/Comparable -/
def k3 : Class := { plain "java/lang/Comparable" (some 0) with
  accessFlags := 1537
  interfaces := #[]
  cf := some (fileOf pool3 1 #[] #[] 1537 3 #[] #[])
  fields := #[]
  methods := #[]
  instanceTypes := #[]
  staticTypes := #[]
  resolved := Array.replicate 12 none
  statics := none }

def pool4 : Array CpInfo := pool [(1, .class_ 2), (0, u "java/io/Serializable"), (0, .class_ 4), (0, u "java/lang/Object")] 2

/-- java/io/Serializable -/
def k4 : Class := { plain "java/io/Serializable" (some 0) with
  accessFlags := 1537
  interfaces := #[]
  cf := some (fileOf pool4 1 #[] #[] 1537 3 #[] #[])
  fields := #[]
  methods := #[]
  instanceTypes := #[]
  staticTypes := #[]
  resolved := Array.replicate 7 none
  statics := none }

def pool5 : Array CpInfo := pool [(2, .class_ 4), (1, u "java/lang/Enum"), (0, u "name"), (0, u "Ljava/lang/String;"), (2, u "ordinal"), (0, u "I"), (1, .class_ 14), (1, u "java/lang/Object"), (4, u "hash"), (86, .class_ 108), (1, u "java/lang/Enum$EnumDesc"), (2, .class_ 112), (0, u "java/lang/constant/Constable"), (0, .class_ 114), (0, u "java/lang/Comparable"), (0, .class_ 116), (0, u "java/io/Serializable")] 87

/-- java/lang/Enum -/
def k5 : Class := { plain "java/lang/Enum" (some 0) with
  accessFlags := 1057
  interfaces := #[2, 3, 4]
  cf := some (fileOf pool5 2 #[.nestMembers #[106]] #[] 1057 12 #[111, 113, 115] #[{ accessFlags := 18, nameIndex := 5, descriptorIndex := 6, attributes := #[] }, { accessFlags := 18, nameIndex := 9, descriptorIndex := 10, attributes := #[] }, { accessFlags := 2, nameIndex := 19, descriptorIndex := 10, attributes := #[] }])
  fields := #[{ name := "name", type := (.object "java/lang/String"), accessFlags := 18, slot := 0, constantValue := 0 }, { name := "ordinal", type := .int, accessFlags := 18, slot := 1, constantValue := 0 }, { name := "hash", type := .int, accessFlags := 2, slot := 2, constantValue := 0 }]
  methods := #[]
  instanceTypes := #[(.object "java/lang/String"), .int, .int]
  staticTypes := #[]
  resolved := Array.replicate 204 none
  statics := none }

def pool6 : Array CpInfo := pool [(1, .class_ 2), (0, u "com/example/batchrake/batchrake/Outcome"), (2, u "DELETED"), (0, u "Lcom/example/batchrake/batchrake/Outcome;"), (2, u "NOT_FOUND"), (2, u "BAD_REQUEST"), (2, u "CONFLICT"), (2, u "STORE_ERROR"), (2, u "$VALUES"), (0, u "[Lcom/example/batchrake/batchrake/Outcome;"), (6, .class_ 31), (1, u "java/lang/Enum"), (6, .fieldref 1 39), (0, .nameAndType 40 41), (0, u "status"), (0, u "Ljava/lang/String;"), (33, u "isFailure"), (0, u "()Z"), (2, u "()Ljava/lang/String;")] 5

def k6c0 : Code := { maxStack := 1, maxLocals := 1, code := prog_5_method_4_code, exceptionTable := #[], attributes := #[] }
def k6m0 : Method := { name := "isFailure", desc := "()Z", sig := { parameters := [], returnType := some .boolean }, accessFlags := 0, code := some k6c0 }
def k6c1 : Code := { maxStack := 1, maxLocals := 1, code := prog_5_method_6_code, exceptionTable := #[], attributes := #[] }
def k6m1 : Method := { name := "status", desc := "()Ljava/lang/String;", sig := { parameters := [], returnType := some (.object "java/lang/String") }, accessFlags := 0, code := some k6c1 }
/-- com/example/batchrake/batchrake/Outcome -/
def k6 : Class := { plain "com/example/batchrake/batchrake/Outcome" (some 5) with
  accessFlags := 16432
  interfaces := #[]
  cf := some (fileOf pool6 1 #[] #[{ accessFlags := 0, nameIndex := 75, descriptorIndex := 76, attributes := #[] }, { accessFlags := 0, nameIndex := 40, descriptorIndex := 79, attributes := #[] }] 16432 29 #[] #[{ accessFlags := 16409, nameIndex := 5, descriptorIndex := 6, attributes := #[] }, { accessFlags := 16409, nameIndex := 9, descriptorIndex := 6, attributes := #[] }, { accessFlags := 16409, nameIndex := 12, descriptorIndex := 6, attributes := #[] }, { accessFlags := 16409, nameIndex := 15, descriptorIndex := 6, attributes := #[] }, { accessFlags := 16409, nameIndex := 18, descriptorIndex := 6, attributes := #[] }, { accessFlags := 18, nameIndex := 40, descriptorIndex := 41, attributes := #[] }, { accessFlags := 4122, nameIndex := 21, descriptorIndex := 22, attributes := #[] }])
  fields := #[{ name := "DELETED", type := (.object "com/example/batchrake/batchrake/Outcome"), accessFlags := 16409, slot := 0, constantValue := 0 }, { name := "NOT_FOUND", type := (.object "com/example/batchrake/batchrake/Outcome"), accessFlags := 16409, slot := 1, constantValue := 0 }, { name := "BAD_REQUEST", type := (.object "com/example/batchrake/batchrake/Outcome"), accessFlags := 16409, slot := 2, constantValue := 0 }, { name := "CONFLICT", type := (.object "com/example/batchrake/batchrake/Outcome"), accessFlags := 16409, slot := 3, constantValue := 0 }, { name := "STORE_ERROR", type := (.object "com/example/batchrake/batchrake/Outcome"), accessFlags := 16409, slot := 4, constantValue := 0 }, { name := "status", type := (.object "java/lang/String"), accessFlags := 18, slot := 3, constantValue := 0 }, { name := "$VALUES", type := (.array (.object "com/example/batchrake/batchrake/Outcome")), accessFlags := 4122, slot := 5, constantValue := 0 }]
  methods := #[k6m0, k6m1]
  instanceTypes := #[(.object "java/lang/String"), .int, .int, (.object "java/lang/String")]
  staticTypes := #[(.object "com/example/batchrake/batchrake/Outcome"), (.object "com/example/batchrake/batchrake/Outcome"), (.object "com/example/batchrake/batchrake/Outcome"), (.object "com/example/batchrake/batchrake/Outcome"), (.object "com/example/batchrake/batchrake/Outcome"), (.array (.object "com/example/batchrake/batchrake/Outcome"))]
  resolved := Array.replicate 85 none
  statics := some 0 }

def pool7 : Array CpInfo := pool [(2, .class_ 4), (1, u "java/lang/CharSequence"), (42, .class_ 48), (0, u "java/lang/CharSequence$1CodePointIterator"), (10, .class_ 60), (0, u "java/lang/CharSequence$1CharIterator"), (5, .class_ 67), (0, u "java/lang/Object")] 63

/-- java/lang/CharSequence -/
def k7 : Class := { plain "java/lang/CharSequence" (some 0) with
  accessFlags := 1537
  interfaces := #[]
  cf := some (fileOf pool7 2 #[.nestMembers #[47, 59]] #[] 1537 66 #[] #[])
  fields := #[]
  methods := #[]
  instanceTypes := #[]
  staticTypes := #[]
  resolved := Array.replicate 131 none
  statics := none }

def pool8 : Array CpInfo := pool [(1, .class_ 2), (0, u "java/lang/constant/ConstantDesc"), (0, .class_ 4), (0, u "java/lang/Object")] 32

/-- java/lang/constant/ConstantDesc -/
def k8 : Class := { plain "java/lang/constant/ConstantDesc" (some 0) with
  accessFlags := 1537
  interfaces := #[]
  cf := some (fileOf pool8 1 #[] #[] 1537 3 #[] #[])
  fields := #[]
  methods := #[]
  instanceTypes := #[]
  staticTypes := #[]
  resolved := Array.replicate 37 none
  statics := none }

def pool9 : Array CpInfo := pool [(2, .class_ 4), (1, u "java/lang/Object"), (0, u "<init>"), (0, u "()V"), (3, .class_ 12), (1, u "java/lang/String"), (0, u "value"), (0, u "[B"), (2, u "coder"), (0, u "B"), (2, u "hash"), (0, u "I"), (2, u "hashIsZero"), (0, u "Z"), (13, u "COMPACT_STRINGS"), (534, .class_ 576), (0, u "java/lang/CharSequence"), (22, u "CASE_INSENSITIVE_ORDER"), (0, u "Ljava/util/Comparator;"), (500, u "serialPersistentFields"), (0, u "[Ljava/io/ObjectStreamField;"), (0, .class_ 1104), (0, u "java/lang/String$CaseInsensitiveComparator"), (1, .class_ 1107), (0, u "java/io/Serializable"), (0, .class_ 1109), (0, u "java/lang/Comparable"), (0, .class_ 1111), (0, u "java/lang/constant/Constable"), (0, .class_ 1113), (0, u "java/lang/constant/ConstantDesc"), (2, u "serialVersionUID"), (0, u "J"), (3, u "REPL"), (0, u "C"), (2, u "LATIN1"), (1, u "UTF16")] 323

def k9m0 : Method := { name := "<init>", desc := "()V", sig := { parameters := [], returnType := none }, accessFlags := 1, code := none }
/-- java/lang/String -/
def k9 : Class := { plain "java/lang/String" (some 0) with
  accessFlags := 49
  interfaces := #[4, 3, 7, 2, 8]
  cf := some (fileOf pool9 10 #[.nestMembers #[1103]] #[{ accessFlags := 1, nameIndex := 5, descriptorIndex := 6, attributes := #[] }] 49 2 #[1106, 1108, 575, 1110, 1112] #[{ accessFlags := 18, nameIndex := 13, descriptorIndex := 14, attributes := #[] }, { accessFlags := 18, nameIndex := 17, descriptorIndex := 18, attributes := #[] }, { accessFlags := 2, nameIndex := 21, descriptorIndex := 22, attributes := #[] }, { accessFlags := 2, nameIndex := 25, descriptorIndex := 26, attributes := #[] }, { accessFlags := 26, nameIndex := 1116, descriptorIndex := 1117, attributes := #[] }, { accessFlags := 24, nameIndex := 40, descriptorIndex := 26, attributes := #[] }, { accessFlags := 26, nameIndex := 1101, descriptorIndex := 1102, attributes := #[] }, { accessFlags := 26, nameIndex := 1121, descriptorIndex := 1122, attributes := #[] }, { accessFlags := 25, nameIndex := 599, descriptorIndex := 600, attributes := #[] }, { accessFlags := 24, nameIndex := 1125, descriptorIndex := 18, attributes := #[] }, { accessFlags := 24, nameIndex := 1127, descriptorIndex := 18, attributes := #[] }])
  fields := #[{ name := "value", type := (.array .byte), accessFlags := 18, slot := 0, constantValue := 0 }, { name := "coder", type := .byte, accessFlags := 18, slot := 1, constantValue := 0 }, { name := "hash", type := .int, accessFlags := 2, slot := 2, constantValue := 0 }, { name := "hashIsZero", type := .boolean, accessFlags := 2, slot := 3, constantValue := 0 }, { name := "serialVersionUID", type := .long, accessFlags := 26, slot := 0, constantValue := 0 }, { name := "COMPACT_STRINGS", type := .boolean, accessFlags := 24, slot := 1, constantValue := 0 }, { name := "serialPersistentFields", type := (.array (.object "java/io/ObjectStreamField")), accessFlags := 26, slot := 2, constantValue := 0 }, { name := "REPL", type := .char, accessFlags := 26, slot := 3, constantValue := 0 }, { name := "CASE_INSENSITIVE_ORDER", type := (.object "java/util/Comparator"), accessFlags := 25, slot := 4, constantValue := 0 }, { name := "LATIN1", type := .byte, accessFlags := 24, slot := 5, constantValue := 0 }, { name := "UTF16", type := .byte, accessFlags := 24, slot := 6, constantValue := 0 }]
  methods := #[k9m0]
  instanceTypes := #[(.array .byte), .byte, .int, .boolean]
  staticTypes := #[.long, .boolean, (.array (.object "java/io/ObjectStreamField")), .char, (.object "java/util/Comparator"), .byte, .byte]
  resolved := Array.replicate 1451 none
  statics := none }

def pool10 : Array CpInfo := pool [(1, u "java/lang/Cloneable"), (0, .class_ 1), (0, u "java/lang/Object"), (0, .class_ 3)] 3

/-- java/lang/Cloneable -/
def k10 : Class := { plain "java/lang/Cloneable" (some 0) with
  accessFlags := 1537
  interfaces := #[]
  cf := some (fileOf pool10 2 #[] #[] 1537 4 #[] #[])
  fields := #[]
  methods := #[]
  instanceTypes := #[]
  staticTypes := #[]
  resolved := Array.replicate 8 none
  statics := none }

/-- the primitive byte -/
def k11 : Class := { plain "byte" none with kind := .primitive 'B', accessFlags := 0x411 }
/-- [B -/
def k12 : Class := { plain "[B" (some 0) with kind := .array 11 .byte, interfaces := #[10, 4], accessFlags := 1041 }

/-- the primitive int -/
def k13 : Class := { plain "int" none with kind := .primitive 'I', accessFlags := 0x411 }
/-- [I -/
def k14 : Class := { plain "[I" (some 0) with kind := .array 13 .int, interfaces := #[10, 4], accessFlags := 1041 }

def heap : Heap := #[{ cls := 6, slots := #[.ref 2, .ref 3, .ref 4, .ref 5, .ref 6, .null], vm := .statics 6 },
  { cls := 9, slots := #[.null, .int 0, .int 0, .int 0], vm := .none },
  { cls := 6, slots := #[.null, .int 0, .int 0, .null], vm := .none },
  { cls := 6, slots := #[.null, .int 1, .int 0, .null], vm := .none },
  { cls := 6, slots := #[.null, .int 2, .int 0, .ref 1], vm := .none },
  { cls := 6, slots := #[.null, .int 3, .int 0, .ref 1], vm := .none },
  { cls := 6, slots := #[.null, .int 4, .int 0, .ref 1], vm := .none }]
def classes : Array Class := #[k0, k1, k2, k3, k4, k5, k6, k7, k8, k9, k10, k11, k12, k13, k14]
def interned : List (Array UInt16 × Addr) := []
def slotsUsed : Nat := 30
def theMethod : MethodId := ⟨1, 1⟩
def args0 : Array Value := #[.int 5]
def aboutOver (below : List Frame) : State where
  vm := { classes := classes, interned := interned.toArray }
  heap := heap
  slotsUsed := slotsUsed
  threads := #[{ frames := .invoking theMethod args0 :: below }]
def below0 : List Frame := [.native { method := ⟨0, 0⟩, args := #[] }]
def about1 : State := aboutOver below0
def p0 : Program := .bare "" "" ""
def e0 : Env := launch0.env 0 0 0
theorem w_frames : about1.frames = Frame.invoking theMethod args0 :: below0 := rfl
set_option maxRecDepth 65536 in
theorem w_args : argsFit about1.vm theMethod args0 = true := by decide +kernel
set_option maxRecDepth 65536 in
theorem w_heap : heapFits about1 = true := by decide +kernel
set_option maxRecDepth 65536 in
theorem w_runnable : about1.curStatus? = some .runnable := by decide +kernel
set_option maxRecDepth 65536 in
theorem w_alone : about1.alone = true := by decide +kernel
set_option maxRecDepth 65536 in
theorem w_named : about1.methodNamed? x = some theMethod := by decide +kernel
set_option maxRecDepth 65536 in
theorem w_hears : about1.hears theMethod below0 = true := by decide +kernel
set_option maxRecDepth 65536 in
theorem w_ripe : about1.ripe theMethod args0 below0 = true := by decide +kernel
theorem w_running : about1.status = .running := rfl
set_option maxRecDepth 65536 in
theorem w_room : about1.hasRoom e0.platform room_1 = true :=
  launch0.hasRoom_least _ room_1 (by decide +kernel) (by decide +kernel) (by decide +kernel) (by decide +kernel) (by decide +kernel) (by decide +kernel)
theorem allAtoms_all (ts : List Jvm.Cond) (a : Array Jvm.Value) (st : Jvm.State) : (allAtoms ts).before a st = ts.all (fun c => c.before a st) := by
  induction ts with
  | nil => rfl
  | cons c t ih =>
    show (Jvm.Cond.and c (allAtoms t)).before a st = _
    rw [Jvm.Cond.before_and, ih, List.all_cons]
def words1 : List Jvm.Cond := Jvm.Cond.code x code maxLocals ret :: tables_1
/-- a 'code' word, met by the world's own term for the bytes: nothing is compared byte by byte -/
theorem code_word {y : MethodName} {bytes : ByteArray} {mx : Nat} {rt : Option FieldType} {a : Array Value} {s : State} {m : MethodId} {meth : Method} {c : Code} (h1 : s.methodNamed? y = some m) (h2 : s.vm.method? m = some meth) (h3 : meth.code = some c) (h4 : c.code = bytes)
    (h5 : (c.maxLocals == mx && c.exceptionTable.isEmpty && decide (c.maxStack ≤ mostOperands) && decide (meth.sig.returnType = rt) && !meth.locks && decide (parseMethodDescriptor y.desc = some meth.sig)) = true) : (Jvm.Cond.code y bytes mx rt).before a s = true := by
  simp only [Bool.and_eq_true, beq_iff_eq, Bool.not_eq_true', decide_eq_true_eq] at h5
  obtain ⟨⟨⟨⟨⟨g1, g2⟩, g3⟩, g4⟩, g5⟩, g6⟩ := h5
  simp [Cond.before, Cond.holds, Cond.value, h1, h2, h3, h4, g1, g2, g3, g4, g5, g6]
def isCode : Jvm.Cond → Bool
  | .code _ _ _ _ => true
  | _ => false
theorem all_split {L : List Jvm.Cond} {P : Jvm.Cond → Bool} (h1 : L.all (fun c => isCode c || P c) = true) (h2 : ∀ c ∈ L.filter isCode, P c = true) : L.all P = true := by
  refine List.all_eq_true.mpr fun c hc => ?_
  have h := List.all_eq_true.mp h1 c hc
  rcases Bool.eq_false_or_eq_true (isCode c) with hi | hi
  · exact h2 c (List.mem_filter.mpr ⟨hc, hi⟩)
  · simpa [hi] using h
set_option maxRecDepth 65536 in
theorem w_c0 : (Jvm.Cond.code x code maxLocals ret).before args0 about1 = true := code_word (m := ⟨1, 1⟩) (meth := k1m1) (c := k1c1) (by decide +kernel) rfl rfl rfl (by decide +kernel)
set_option maxRecDepth 65536 in
theorem w_c1 : (Jvm.Cond.code ({ cls := "com/example/batchrake/batchrake/Outcome", name := "isFailure", desc := "()Z" } : Jvm.MethodName) prog_5_method_4_code (1 : Nat) (Option.some Jvm.ClassFile.FieldType.boolean)).before args0 about1 = true := code_word (m := ⟨6, 0⟩) (meth := k6m0) (c := k6c0) (by decide +kernel) rfl rfl rfl (by decide +kernel)
set_option maxRecDepth 65536 in
theorem w_c2 : (Jvm.Cond.code ({ cls := "com/example/batchrake/batchrake/Outcome", name := "status", desc := "()Ljava/lang/String;" } : Jvm.MethodName) prog_5_method_6_code (1 : Nat) (Option.some (Jvm.ClassFile.FieldType.object "java/lang/String"))).before args0 about1 = true := code_word (m := ⟨6, 1⟩) (meth := k6m1) (c := k6c1) (by decide +kernel) rfl rfl rfl (by decide +kernel)
def codes1 : List Jvm.Cond := [Jvm.Cond.code x code maxLocals ret, Jvm.Cond.code ({ cls := "com/example/batchrake/batchrake/Outcome", name := "isFailure", desc := "()Z" } : Jvm.MethodName) prog_5_method_4_code (1 : Nat) (Option.some Jvm.ClassFile.FieldType.boolean), Jvm.Cond.code ({ cls := "com/example/batchrake/batchrake/Outcome", name := "status", desc := "()Ljava/lang/String;" } : Jvm.MethodName) prog_5_method_6_code (1 : Nat) (Option.some (Jvm.ClassFile.FieldType.object "java/lang/String"))]
set_option maxRecDepth 65536 in
theorem codes_eq : words1.filter isCode = codes1 := rfl
theorem w_codes : ∀ c ∈ words1.filter isCode, c.before args0 about1 = true := by
  rw [codes_eq]
  intro c hc
  simp only [codes1, List.mem_cons, List.not_mem_nil, or_false] at hc
  rcases hc with rfl | rfl | rfl
  · exact w_c0
  · exact w_c1
  · exact w_c2
set_option maxRecDepth 65536 in
theorem w_t1 : (words1.take 24).all (fun c => isCode c || c.before args0 about1) = true := by decide +kernel
set_option maxRecDepth 65536 in
theorem w_t2 : (words1.drop 24).all (fun c => isCode c || c.before args0 about1) = true := by decide +kernel
theorem w_tables : (allAtoms (Jvm.Cond.code x code maxLocals ret :: tables_1)).before args0 about1 = true := by
  rw [allAtoms_all]
  show words1.all (fun c => c.before args0 about1) = true
  refine all_split ?_ w_codes
  rw [← List.take_append_drop 24 words1, List.all_append, w_t1, w_t2]
  rfl
set_option maxRecDepth 65536 in
theorem w_case : (Jvm.Cond.and given_1 narrow_1).before args0 about1 = true := by decide +kernel
theorem w_applies : (headSpec (Jvm.Cond.code x code maxLocals ret :: tables_1) room_1).applies x e0.platform about1 = true :=
  (Spec.applies_iff w_frames).mpr ⟨w_running, w_runnable, w_alone, w_named, w_hears, w_ripe, w_room, w_tables⟩
theorem atStart : AtStart classFile x code maxLocals ret World_1 tables_1 room_1 Calls_1 rest_1 Pre_1 launch0 p0 e0 about1 theMethod args0 below0 :=
  ⟨lists_1, trivial, launch0.admits_env _ _ _, launch0.least_env, fairChoices_fair.cas, fairChoices_fair.clock, w_frames, w_args, w_heap, w_applies, trivial, trivial, w_case⟩
end start1
theorem witness_1 : WitnessClaimed_1 := ⟨start1.p0, start1.e0, start1.about1, start1.theMethod, start1.args0, start1.below0, start1.atStart⟩
end Jvm.Pilot.@@N@@
